/-
  No cell of these rows narrows 'for every input' (looked for: loops, veiled, ifaces, maps, wideKeys, modest, calm, conditions, laid).
  DERIVED. THE GIVEN ROWS OF THIS SEAT. 3 by the template 'for every input the law returns true; each argument reads behind the call as it read before'; 0 by the template 'total and deterministic' (their statements: Qxb6600478aTotals.lean).
  GIVEN WITH THE SEED: the statements are not yours to turn. If you find one false, say at which input.
  Laid BY PROGRAM, IN A SANDBOX (cutbox-rows.mjs): the forced cells as the released guide's own fill.sh prints them over the translation 57f82f5ee98f17c7… (all of the seat's roots in one cut). By AI agents, Wed Nov 11 2026. No macro, syntax, notation, axiom, sorry.
-/
import Derived.Test.Qxb6600478aChecked
import GoSem.Claim
import GoSem.ClaimJoined
import GoSem.ClaimMapViews
import Derived.JoinedTies
import Derived.KernelRfl
namespace Go.Proofs.Qxb6600478a
/- THE CELL 'sum', in the pinned program and in every row, IS THE sha256 OF THE DUMP (.gsa) THAT Qxb6600478aProg.lean LOADS. Nothing in Lean hashes anything: it is a label: what it is worth is what the hold of that sum in a sandbox is worth. -/
noncomputable def Try.pinned : Pinned := { name := "qxb6600478a", sum := "57f82f5ee98f17c7c81ccb9286ae320ff3806e1c3c320d5882b31958e7306456", checked := Try.checked }
namespace Rows
def none {H : Type} : Left H := { results := [], args := [] }

/-- 'zzlaws_dns_b1.FnEqualFoldMatchesXorModel': WHATEVER THE INPUT: true; the input reads as it did. -/
def fnEqualFoldMatchesXorModelSpec : ChangeSpec := { name := "fnEqualFoldMatchesXorModel", fn := fun _ => fun
  | [d1, d2] => { results := [.lit (.bool true)], args := [d1, d2] }
  | _ => none }
def fnEqualFoldMatchesXorModelRow : OpenClaim := { program := "qxb6600478a", sum := "57f82f5ee98f17c7c81ccb9286ae320ff3806e1c3c320d5882b31958e7306456", func := "example.com/signaline/signaline/zzlaws_dns_b1.FnEqualFoldMatchesXorModel", spec := "fnEqualFoldMatchesXorModel", apart := false }
def FnEqualFoldMatchesXorModelSaid : Prop := fnEqualFoldMatchesXorModelRow.holds Try.pinned (OpenSpec.ofChange fnEqualFoldMatchesXorModelSpec)

/-- ITS FALSE NEIGHBOUR: 'it returns false'. Refute it at one input. -/
def fnEqualFoldMatchesXorModelWrong : ChangeSpec := { name := "fnEqualFoldMatchesXorModel", fn := fun _ => fun
  | [d1, d2] => { results := [.lit (.bool false)], args := [d1, d2] }
  | _ => none }
def FnEqualFoldMatchesXorModelWrongFalsely : Prop := fnEqualFoldMatchesXorModelRow.holds Try.pinned (OpenSpec.ofChange fnEqualFoldMatchesXorModelWrong)

/-- 'zzlaws_dns_b1.FnEqualFoldIsEquivalence': WHATEVER THE INPUT: true; the input reads as it did. -/
def fnEqualFoldIsEquivalenceSpec : ChangeSpec := { name := "fnEqualFoldIsEquivalence", fn := fun _ => fun
  | [d1, d2, d3] => { results := [.lit (.bool true)], args := [d1, d2, d3] }
  | _ => none }
def fnEqualFoldIsEquivalenceRow : OpenClaim := { program := "qxb6600478a", sum := "57f82f5ee98f17c7c81ccb9286ae320ff3806e1c3c320d5882b31958e7306456", func := "example.com/signaline/signaline/zzlaws_dns_b1.FnEqualFoldIsEquivalence", spec := "fnEqualFoldIsEquivalence", apart := false }
def FnEqualFoldIsEquivalenceSaid : Prop := fnEqualFoldIsEquivalenceRow.holds Try.pinned (OpenSpec.ofChange fnEqualFoldIsEquivalenceSpec)

/-- ITS FALSE NEIGHBOUR: 'it returns false'. Refute it at one input. -/
def fnEqualFoldIsEquivalenceWrong : ChangeSpec := { name := "fnEqualFoldIsEquivalence", fn := fun _ => fun
  | [d1, d2, d3] => { results := [.lit (.bool false)], args := [d1, d2, d3] }
  | _ => none }
def FnEqualFoldIsEquivalenceWrongFalsely : Prop := fnEqualFoldIsEquivalenceRow.holds Try.pinned (OpenSpec.ofChange fnEqualFoldIsEquivalenceWrong)

/-- 'zzlaws_dns_b1.FnEqualFoldIgnoresCaseOfEitherSide': WHATEVER THE INPUT: true; the input reads as it did. -/
def fnEqualFoldIgnoresCaseOfEitherSideSpec : ChangeSpec := { name := "fnEqualFoldIgnoresCaseOfEitherSide", fn := fun _ => fun
  | [d1, d2] => { results := [.lit (.bool true)], args := [d1, d2] }
  | _ => none }
def fnEqualFoldIgnoresCaseOfEitherSideRow : OpenClaim := { program := "qxb6600478a", sum := "57f82f5ee98f17c7c81ccb9286ae320ff3806e1c3c320d5882b31958e7306456", func := "example.com/signaline/signaline/zzlaws_dns_b1.FnEqualFoldIgnoresCaseOfEitherSide", spec := "fnEqualFoldIgnoresCaseOfEitherSide", apart := false }
def FnEqualFoldIgnoresCaseOfEitherSideSaid : Prop := fnEqualFoldIgnoresCaseOfEitherSideRow.holds Try.pinned (OpenSpec.ofChange fnEqualFoldIgnoresCaseOfEitherSideSpec)

/-- ITS FALSE NEIGHBOUR: 'it returns false'. Refute it at one input. -/
def fnEqualFoldIgnoresCaseOfEitherSideWrong : ChangeSpec := { name := "fnEqualFoldIgnoresCaseOfEitherSide", fn := fun _ => fun
  | [d1, d2] => { results := [.lit (.bool false)], args := [d1, d2] }
  | _ => none }
def FnEqualFoldIgnoresCaseOfEitherSideWrongFalsely : Prop := fnEqualFoldIgnoresCaseOfEitherSideRow.holds Try.pinned (OpenSpec.ofChange fnEqualFoldIgnoresCaseOfEitherSideWrong)

end Rows
end Go.Proofs.Qxb6600478a
