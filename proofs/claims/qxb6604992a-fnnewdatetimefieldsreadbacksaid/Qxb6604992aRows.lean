/-
  No cell of these rows narrows 'for every input' (looked for: loops, veiled, ifaces, maps, wideKeys, modest, calm, conditions, laid).
  DERIVED. THE GIVEN ROWS OF THIS SEAT. 2 by the template 'for every input the law returns true; each argument reads behind the call as it read before'; 0 by the template 'total and deterministic' (their statements: Qxb6604992aTotals.lean).
  GIVEN WITH THE SEED: the statements are not yours to turn. If you find one false, say at which input.
  Laid BY PROGRAM, IN A SANDBOX (cutbox-rows.mjs): the forced cells as the released guide's own fill.sh prints them over the translation 55d71b5e2969acb2… (all of the seat's roots in one cut). By AI agents, Wed Nov 11 2026. No macro, syntax, notation, axiom, sorry.
-/
import Derived.Test.Qxb6604992aChecked
import GoSem.Claim
import GoSem.ClaimJoined
import GoSem.ClaimMapViews
import Derived.JoinedTies
import Derived.KernelRfl
namespace Go.Proofs.Qxb6604992a
/- THE CELL 'sum', in the pinned program and in every row, IS THE sha256 OF THE DUMP (.gsa) THAT Qxb6604992aProg.lean LOADS. Nothing in Lean hashes anything: it is a label: what it is worth is what the hold of that sum in a sandbox is worth. -/
noncomputable def Try.pinned : Pinned := { name := "qxb6604992a", sum := "55d71b5e2969acb23e9f16d2c341ae570afadf23d981349b7160bf4f643b5ba9", checked := Try.checked }
namespace Rows
def none {H : Type} : Left H := { results := [], args := [] }

/-- 'zzlaws_root_b1.FnNewDateTimeFieldsReadBack': WHATEVER THE INPUT: true; the input reads as it did. -/
def fnNewDateTimeFieldsReadBackSpec : ChangeSpec := { name := "fnNewDateTimeFieldsReadBack", fn := fun _ => fun
  | [d1, d2, d3, d4, d5, d6, d7, d8, d9, d10, d11] => { results := [.lit (.bool true)], args := [d1, d2, d3, d4, d5, d6, d7, d8, d9, d10, d11] }
  | _ => none }
def fnNewDateTimeFieldsReadBackRow : OpenClaim := { program := "qxb6604992a", sum := "55d71b5e2969acb23e9f16d2c341ae570afadf23d981349b7160bf4f643b5ba9", func := "example.com/interstice/interstice/zzlaws_root_b1.FnNewDateTimeFieldsReadBack", spec := "fnNewDateTimeFieldsReadBack", apart := false }
def FnNewDateTimeFieldsReadBackSaid : Prop := fnNewDateTimeFieldsReadBackRow.holds Try.pinned (OpenSpec.ofChange fnNewDateTimeFieldsReadBackSpec)

/-- ITS FALSE NEIGHBOUR: 'it returns false'. Refute it at one input. -/
def fnNewDateTimeFieldsReadBackWrong : ChangeSpec := { name := "fnNewDateTimeFieldsReadBack", fn := fun _ => fun
  | [d1, d2, d3, d4, d5, d6, d7, d8, d9, d10, d11] => { results := [.lit (.bool false)], args := [d1, d2, d3, d4, d5, d6, d7, d8, d9, d10, d11] }
  | _ => none }
def FnNewDateTimeFieldsReadBackWrongFalsely : Prop := fnNewDateTimeFieldsReadBackRow.holds Try.pinned (OpenSpec.ofChange fnNewDateTimeFieldsReadBackWrong)

/-- 'zzlaws_root_b1.FnNewDateTimeNextDayAddsOneDay': WHATEVER THE INPUT: true; the input reads as it did. -/
def fnNewDateTimeNextDayAddsOneDaySpec : ChangeSpec := { name := "fnNewDateTimeNextDayAddsOneDay", fn := fun _ => fun
  | [d1, d2, d3, d4, d5, d6, d7, d8, d9, d10, d11] => { results := [.lit (.bool true)], args := [d1, d2, d3, d4, d5, d6, d7, d8, d9, d10, d11] }
  | _ => none }
def fnNewDateTimeNextDayAddsOneDayRow : OpenClaim := { program := "qxb6604992a", sum := "55d71b5e2969acb23e9f16d2c341ae570afadf23d981349b7160bf4f643b5ba9", func := "example.com/interstice/interstice/zzlaws_root_b1.FnNewDateTimeNextDayAddsOneDay", spec := "fnNewDateTimeNextDayAddsOneDay", apart := false }
def FnNewDateTimeNextDayAddsOneDaySaid : Prop := fnNewDateTimeNextDayAddsOneDayRow.holds Try.pinned (OpenSpec.ofChange fnNewDateTimeNextDayAddsOneDaySpec)

/-- ITS FALSE NEIGHBOUR: 'it returns false'. Refute it at one input. -/
def fnNewDateTimeNextDayAddsOneDayWrong : ChangeSpec := { name := "fnNewDateTimeNextDayAddsOneDay", fn := fun _ => fun
  | [d1, d2, d3, d4, d5, d6, d7, d8, d9, d10, d11] => { results := [.lit (.bool false)], args := [d1, d2, d3, d4, d5, d6, d7, d8, d9, d10, d11] }
  | _ => none }
def FnNewDateTimeNextDayAddsOneDayWrongFalsely : Prop := fnNewDateTimeNextDayAddsOneDayRow.holds Try.pinned (OpenSpec.ofChange fnNewDateTimeNextDayAddsOneDayWrong)

end Rows
end Go.Proofs.Qxb6604992a
