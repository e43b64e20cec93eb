/-
  No cell of these rows narrows 'for every input' (looked for: loops, veiled, ifaces, maps, wideKeys, modest, calm, conditions, laid).
  DERIVED. THE GIVEN ROWS OF THIS SEAT. 6 by the template 'for every input the law returns true; each argument reads behind the call as it read before'; 0 by the template 'total and deterministic' (their statements: Qxb6003660aTotals.lean).
  GIVEN WITH THE SEED: the statements are not yours to turn. If you find one false, say at which input.
  Laid BY PROGRAM, IN A SANDBOX (cutbox-rows.mjs): the forced cells as the released guide's own fill.sh prints them over the translation b87be531ca0d9dbc… (all of the seat's roots in one cut). By AI agents, Wed Nov 11 2026. No macro, syntax, notation, axiom, sorry.
-/
import Derived.Test.Qxb6003660aChecked
import GoSem.Claim
import GoSem.ClaimJoined
import GoSem.ClaimMapViews
import Derived.JoinedTies
import Derived.KernelRfl
namespace Go.Proofs.Qxb6003660a
/- THE CELL 'sum', in the pinned program and in every row, IS THE sha256 OF THE DUMP (.gsa) THAT Qxb6003660aProg.lean LOADS. Nothing in Lean hashes anything: it is a label: what it is worth is what the hold of that sum in a sandbox is worth. -/
noncomputable def Try.pinned : Pinned := { name := "qxb6003660a", sum := "b87be531ca0d9dbc687daeae55ecf06b21b6441c8492feace274beaeaf4683f0", checked := Try.checked }
namespace Rows
def none {H : Type} : Left H := { results := [], args := [] }

/-- 'zzlaws_dns_b1.FnAppendNameKeyDecodesToLabels': WHATEVER THE INPUT: true; the input reads as it did. -/
def fnAppendNameKeyDecodesToLabelsSpec : ChangeSpec := { name := "fnAppendNameKeyDecodesToLabels", fn := fun _ => fun
  | [d1, d2] => { results := [.lit (.bool true)], args := [d1, d2] }
  | _ => none }
def fnAppendNameKeyDecodesToLabelsRow : OpenClaim := { program := "qxb6003660a", sum := "b87be531ca0d9dbc687daeae55ecf06b21b6441c8492feace274beaeaf4683f0", func := "example.com/zonewright/zonewright/zzlaws_dns_b1.FnAppendNameKeyDecodesToLabels", spec := "fnAppendNameKeyDecodesToLabels", apart := false }
def FnAppendNameKeyDecodesToLabelsSaid : Prop := fnAppendNameKeyDecodesToLabelsRow.holds Try.pinned (OpenSpec.ofChange fnAppendNameKeyDecodesToLabelsSpec)

/-- ITS FALSE NEIGHBOUR: 'it returns false'. Refute it at one input. -/
def fnAppendNameKeyDecodesToLabelsWrong : ChangeSpec := { name := "fnAppendNameKeyDecodesToLabels", fn := fun _ => fun
  | [d1, d2] => { results := [.lit (.bool false)], args := [d1, d2] }
  | _ => none }
def FnAppendNameKeyDecodesToLabelsWrongFalsely : Prop := fnAppendNameKeyDecodesToLabelsRow.holds Try.pinned (OpenSpec.ofChange fnAppendNameKeyDecodesToLabelsWrong)

/-- 'zzlaws_dns_b1.FnAppendNameKeyOrdersAsCanonical': WHATEVER THE INPUT: true; the input reads as it did. -/
def fnAppendNameKeyOrdersAsCanonicalSpec : ChangeSpec := { name := "fnAppendNameKeyOrdersAsCanonical", fn := fun _ => fun
  | [d1, d2, d3, d4, d5] => { results := [.lit (.bool true)], args := [d1, d2, d3, d4, d5] }
  | _ => none }
def fnAppendNameKeyOrdersAsCanonicalRow : OpenClaim := { program := "qxb6003660a", sum := "b87be531ca0d9dbc687daeae55ecf06b21b6441c8492feace274beaeaf4683f0", func := "example.com/zonewright/zonewright/zzlaws_dns_b1.FnAppendNameKeyOrdersAsCanonical", spec := "fnAppendNameKeyOrdersAsCanonical", apart := false }
def FnAppendNameKeyOrdersAsCanonicalSaid : Prop := fnAppendNameKeyOrdersAsCanonicalRow.holds Try.pinned (OpenSpec.ofChange fnAppendNameKeyOrdersAsCanonicalSpec)

/-- ITS FALSE NEIGHBOUR: 'it returns false'. Refute it at one input. -/
def fnAppendNameKeyOrdersAsCanonicalWrong : ChangeSpec := { name := "fnAppendNameKeyOrdersAsCanonical", fn := fun _ => fun
  | [d1, d2, d3, d4, d5] => { results := [.lit (.bool false)], args := [d1, d2, d3, d4, d5] }
  | _ => none }
def FnAppendNameKeyOrdersAsCanonicalWrongFalsely : Prop := fnAppendNameKeyOrdersAsCanonicalRow.holds Try.pinned (OpenSpec.ofChange fnAppendNameKeyOrdersAsCanonicalWrong)

/-- 'zzlaws_dns_b1.FnInZoneAgreesWithNameKeyPrefix': WHATEVER THE INPUT: true; the input reads as it did. -/
def fnInZoneAgreesWithNameKeyPrefixSpec : ChangeSpec := { name := "fnInZoneAgreesWithNameKeyPrefix", fn := fun _ => fun
  | [d1, d2] => { results := [.lit (.bool true)], args := [d1, d2] }
  | _ => none }
def fnInZoneAgreesWithNameKeyPrefixRow : OpenClaim := { program := "qxb6003660a", sum := "b87be531ca0d9dbc687daeae55ecf06b21b6441c8492feace274beaeaf4683f0", func := "example.com/zonewright/zonewright/zzlaws_dns_b1.FnInZoneAgreesWithNameKeyPrefix", spec := "fnInZoneAgreesWithNameKeyPrefix", apart := false }
def FnInZoneAgreesWithNameKeyPrefixSaid : Prop := fnInZoneAgreesWithNameKeyPrefixRow.holds Try.pinned (OpenSpec.ofChange fnInZoneAgreesWithNameKeyPrefixSpec)

/-- ITS FALSE NEIGHBOUR: 'it returns false'. Refute it at one input. -/
def fnInZoneAgreesWithNameKeyPrefixWrong : ChangeSpec := { name := "fnInZoneAgreesWithNameKeyPrefix", fn := fun _ => fun
  | [d1, d2] => { results := [.lit (.bool false)], args := [d1, d2] }
  | _ => none }
def FnInZoneAgreesWithNameKeyPrefixWrongFalsely : Prop := fnInZoneAgreesWithNameKeyPrefixRow.holds Try.pinned (OpenSpec.ofChange fnInZoneAgreesWithNameKeyPrefixWrong)

/-- 'zzlaws_dns_b1.FnInZoneUnderMoreLabels': WHATEVER THE INPUT: true; the input reads as it did. -/
def fnInZoneUnderMoreLabelsSpec : ChangeSpec := { name := "fnInZoneUnderMoreLabels", fn := fun _ => fun
  | [d1, d2, d3] => { results := [.lit (.bool true)], args := [d1, d2, d3] }
  | _ => none }
def fnInZoneUnderMoreLabelsRow : OpenClaim := { program := "qxb6003660a", sum := "b87be531ca0d9dbc687daeae55ecf06b21b6441c8492feace274beaeaf4683f0", func := "example.com/zonewright/zonewright/zzlaws_dns_b1.FnInZoneUnderMoreLabels", spec := "fnInZoneUnderMoreLabels", apart := false }
def FnInZoneUnderMoreLabelsSaid : Prop := fnInZoneUnderMoreLabelsRow.holds Try.pinned (OpenSpec.ofChange fnInZoneUnderMoreLabelsSpec)

/-- ITS FALSE NEIGHBOUR: 'it returns false'. Refute it at one input. -/
def fnInZoneUnderMoreLabelsWrong : ChangeSpec := { name := "fnInZoneUnderMoreLabels", fn := fun _ => fun
  | [d1, d2, d3] => { results := [.lit (.bool false)], args := [d1, d2, d3] }
  | _ => none }
def FnInZoneUnderMoreLabelsWrongFalsely : Prop := fnInZoneUnderMoreLabelsRow.holds Try.pinned (OpenSpec.ofChange fnInZoneUnderMoreLabelsWrong)

/-- 'zzlaws_dns_b1.FnTypeBitMapsDecodeToTheSet': WHATEVER THE INPUT: true; the input reads as it did. -/
def fnTypeBitMapsDecodeToTheSetSpec : ChangeSpec := { name := "fnTypeBitMapsDecodeToTheSet", fn := fun _ => fun
  | [d1, d2] => { results := [.lit (.bool true)], args := [d1, d2] }
  | _ => none }
def fnTypeBitMapsDecodeToTheSetRow : OpenClaim := { program := "qxb6003660a", sum := "b87be531ca0d9dbc687daeae55ecf06b21b6441c8492feace274beaeaf4683f0", func := "example.com/zonewright/zonewright/zzlaws_dns_b1.FnTypeBitMapsDecodeToTheSet", spec := "fnTypeBitMapsDecodeToTheSet", apart := false }
def FnTypeBitMapsDecodeToTheSetSaid : Prop := fnTypeBitMapsDecodeToTheSetRow.holds Try.pinned (OpenSpec.ofChange fnTypeBitMapsDecodeToTheSetSpec)

/-- ITS FALSE NEIGHBOUR: 'it returns false'. Refute it at one input. -/
def fnTypeBitMapsDecodeToTheSetWrong : ChangeSpec := { name := "fnTypeBitMapsDecodeToTheSet", fn := fun _ => fun
  | [d1, d2] => { results := [.lit (.bool false)], args := [d1, d2] }
  | _ => none }
def FnTypeBitMapsDecodeToTheSetWrongFalsely : Prop := fnTypeBitMapsDecodeToTheSetRow.holds Try.pinned (OpenSpec.ofChange fnTypeBitMapsDecodeToTheSetWrong)

/-- 'zzlaws_dns_b1.FnTypeBitMapsCutAtWindowBoundariesOnly': WHATEVER THE INPUT: true; the input reads as it did. -/
def fnTypeBitMapsCutAtWindowBoundariesOnlySpec : ChangeSpec := { name := "fnTypeBitMapsCutAtWindowBoundariesOnly", fn := fun _ => fun
  | [d1, d2, d3] => { results := [.lit (.bool true)], args := [d1, d2, d3] }
  | _ => none }
def fnTypeBitMapsCutAtWindowBoundariesOnlyRow : OpenClaim := { program := "qxb6003660a", sum := "b87be531ca0d9dbc687daeae55ecf06b21b6441c8492feace274beaeaf4683f0", func := "example.com/zonewright/zonewright/zzlaws_dns_b1.FnTypeBitMapsCutAtWindowBoundariesOnly", spec := "fnTypeBitMapsCutAtWindowBoundariesOnly", apart := false }
def FnTypeBitMapsCutAtWindowBoundariesOnlySaid : Prop := fnTypeBitMapsCutAtWindowBoundariesOnlyRow.holds Try.pinned (OpenSpec.ofChange fnTypeBitMapsCutAtWindowBoundariesOnlySpec)

/-- ITS FALSE NEIGHBOUR: 'it returns false'. Refute it at one input. -/
def fnTypeBitMapsCutAtWindowBoundariesOnlyWrong : ChangeSpec := { name := "fnTypeBitMapsCutAtWindowBoundariesOnly", fn := fun _ => fun
  | [d1, d2, d3] => { results := [.lit (.bool false)], args := [d1, d2, d3] }
  | _ => none }
def FnTypeBitMapsCutAtWindowBoundariesOnlyWrongFalsely : Prop := fnTypeBitMapsCutAtWindowBoundariesOnlyRow.holds Try.pinned (OpenSpec.ofChange fnTypeBitMapsCutAtWindowBoundariesOnlyWrong)

end Rows
end Go.Proofs.Qxb6003660a
