/-
  No cell of these rows narrows 'for every input' (looked for: loops, veiled, ifaces, maps, wideKeys, modest, calm, conditions, laid).
  DERIVED. THE GIVEN ROWS OF THIS SEAT. 6 by the template 'for every input the law returns true; each argument reads behind the call as it read before'; 0 by the template 'total and deterministic' (their statements: Qxb6602937aTotals.lean).
  GIVEN WITH THE SEED: the statements are not yours to turn. If you find one false, say at which input.
  Laid BY PROGRAM, IN A SANDBOX (cutbox-rows.mjs): the forced cells as the released guide's own fill.sh prints them over the translation d9247ee407a0a553… (all of the seat's roots in one cut). By AI agents, Wed Nov 11 2026. No macro, syntax, notation, axiom, sorry.
-/
import Derived.Test.Qxb6602937aChecked
import GoSem.Claim
import GoSem.ClaimJoined
import GoSem.ClaimMapViews
import Derived.JoinedTies
import Derived.KernelRfl
namespace Go.Proofs.Qxb6602937a
/- THE CELL 'sum', in the pinned program and in every row, IS THE sha256 OF THE DUMP (.gsa) THAT Qxb6602937aProg.lean LOADS. Nothing in Lean hashes anything: it is a label: what it is worth is what the hold of that sum in a sandbox is worth. -/
noncomputable def Try.pinned : Pinned := { name := "qxb6602937a", sum := "d9247ee407a0a553251f37c7e3c6cf6dc44cf37db0e48ffddc80da5548e62be3", checked := Try.checked }
namespace Rows
def none {H : Type} : Left H := { results := [], args := [] }

/-- 'zzlaws_internal_jsonkeys_b1.FnSkipSpaceExact': WHATEVER THE INPUT: true; the input reads as it did. -/
def fnSkipSpaceExactSpec : ChangeSpec := { name := "fnSkipSpaceExact", fn := fun _ => fun
  | [d1, d2] => { results := [.lit (.bool true)], args := [d1, d2] }
  | _ => none }
def fnSkipSpaceExactRow : OpenClaim := { program := "qxb6602937a", sum := "d9247ee407a0a553251f37c7e3c6cf6dc44cf37db0e48ffddc80da5548e62be3", func := "example.com/parley/parley/zzlaws_internal_jsonkeys_b1.FnSkipSpaceExact", spec := "fnSkipSpaceExact", apart := false }
def FnSkipSpaceExactSaid : Prop := fnSkipSpaceExactRow.holds Try.pinned (OpenSpec.ofChange fnSkipSpaceExactSpec)

/-- ITS FALSE NEIGHBOUR: 'it returns false'. Refute it at one input. -/
def fnSkipSpaceExactWrong : ChangeSpec := { name := "fnSkipSpaceExact", fn := fun _ => fun
  | [d1, d2] => { results := [.lit (.bool false)], args := [d1, d2] }
  | _ => none }
def FnSkipSpaceExactWrongFalsely : Prop := fnSkipSpaceExactRow.holds Try.pinned (OpenSpec.ofChange fnSkipSpaceExactWrong)

/-- 'zzlaws_internal_jsonkeys_b1.FnSkipSpaceIdempotent': WHATEVER THE INPUT: true; the input reads as it did. -/
def fnSkipSpaceIdempotentSpec : ChangeSpec := { name := "fnSkipSpaceIdempotent", fn := fun _ => fun
  | [d1, d2] => { results := [.lit (.bool true)], args := [d1, d2] }
  | _ => none }
def fnSkipSpaceIdempotentRow : OpenClaim := { program := "qxb6602937a", sum := "d9247ee407a0a553251f37c7e3c6cf6dc44cf37db0e48ffddc80da5548e62be3", func := "example.com/parley/parley/zzlaws_internal_jsonkeys_b1.FnSkipSpaceIdempotent", spec := "fnSkipSpaceIdempotent", apart := false }
def FnSkipSpaceIdempotentSaid : Prop := fnSkipSpaceIdempotentRow.holds Try.pinned (OpenSpec.ofChange fnSkipSpaceIdempotentSpec)

/-- ITS FALSE NEIGHBOUR: 'it returns false'. Refute it at one input. -/
def fnSkipSpaceIdempotentWrong : ChangeSpec := { name := "fnSkipSpaceIdempotent", fn := fun _ => fun
  | [d1, d2] => { results := [.lit (.bool false)], args := [d1, d2] }
  | _ => none }
def FnSkipSpaceIdempotentWrongFalsely : Prop := fnSkipSpaceIdempotentRow.holds Try.pinned (OpenSpec.ofChange fnSkipSpaceIdempotentWrong)

/-- 'zzlaws_internal_jsonkeys_b1.FnNextExact': WHATEVER THE INPUT: true; the input reads as it did. -/
def fnNextExactSpec : ChangeSpec := { name := "fnNextExact", fn := fun _ => fun
  | [d1, d2] => { results := [.lit (.bool true)], args := [d1, d2] }
  | _ => none }
def fnNextExactRow : OpenClaim := { program := "qxb6602937a", sum := "d9247ee407a0a553251f37c7e3c6cf6dc44cf37db0e48ffddc80da5548e62be3", func := "example.com/parley/parley/zzlaws_internal_jsonkeys_b1.FnNextExact", spec := "fnNextExact", apart := false }
def FnNextExactSaid : Prop := fnNextExactRow.holds Try.pinned (OpenSpec.ofChange fnNextExactSpec)

/-- ITS FALSE NEIGHBOUR: 'it returns false'. Refute it at one input. -/
def fnNextExactWrong : ChangeSpec := { name := "fnNextExact", fn := fun _ => fun
  | [d1, d2] => { results := [.lit (.bool false)], args := [d1, d2] }
  | _ => none }
def FnNextExactWrongFalsely : Prop := fnNextExactRow.holds Try.pinned (OpenSpec.ofChange fnNextExactWrong)

/-- 'zzlaws_internal_jsonkeys_b1.FnNextPeeksWhereSkipSpaceStops': WHATEVER THE INPUT: true; the input reads as it did. -/
def fnNextPeeksWhereSkipSpaceStopsSpec : ChangeSpec := { name := "fnNextPeeksWhereSkipSpaceStops", fn := fun _ => fun
  | [d1, d2] => { results := [.lit (.bool true)], args := [d1, d2] }
  | _ => none }
def fnNextPeeksWhereSkipSpaceStopsRow : OpenClaim := { program := "qxb6602937a", sum := "d9247ee407a0a553251f37c7e3c6cf6dc44cf37db0e48ffddc80da5548e62be3", func := "example.com/parley/parley/zzlaws_internal_jsonkeys_b1.FnNextPeeksWhereSkipSpaceStops", spec := "fnNextPeeksWhereSkipSpaceStops", apart := false }
def FnNextPeeksWhereSkipSpaceStopsSaid : Prop := fnNextPeeksWhereSkipSpaceStopsRow.holds Try.pinned (OpenSpec.ofChange fnNextPeeksWhereSkipSpaceStopsSpec)

/-- ITS FALSE NEIGHBOUR: 'it returns false'. Refute it at one input. -/
def fnNextPeeksWhereSkipSpaceStopsWrong : ChangeSpec := { name := "fnNextPeeksWhereSkipSpaceStops", fn := fun _ => fun
  | [d1, d2] => { results := [.lit (.bool false)], args := [d1, d2] }
  | _ => none }
def FnNextPeeksWhereSkipSpaceStopsWrongFalsely : Prop := fnNextPeeksWhereSkipSpaceStopsRow.holds Try.pinned (OpenSpec.ofChange fnNextPeeksWhereSkipSpaceStopsWrong)

/-- 'zzlaws_internal_jsonkeys_b1.FnLiteralExact': WHATEVER THE INPUT: true; the input reads as it did. -/
def fnLiteralExactSpec : ChangeSpec := { name := "fnLiteralExact", fn := fun _ => fun
  | [d1, d2] => { results := [.lit (.bool true)], args := [d1, d2] }
  | _ => none }
def fnLiteralExactRow : OpenClaim := { program := "qxb6602937a", sum := "d9247ee407a0a553251f37c7e3c6cf6dc44cf37db0e48ffddc80da5548e62be3", func := "example.com/parley/parley/zzlaws_internal_jsonkeys_b1.FnLiteralExact", spec := "fnLiteralExact", apart := false }
def FnLiteralExactSaid : Prop := fnLiteralExactRow.holds Try.pinned (OpenSpec.ofChange fnLiteralExactSpec)

/-- ITS FALSE NEIGHBOUR: 'it returns false'. Refute it at one input. -/
def fnLiteralExactWrong : ChangeSpec := { name := "fnLiteralExact", fn := fun _ => fun
  | [d1, d2] => { results := [.lit (.bool false)], args := [d1, d2] }
  | _ => none }
def FnLiteralExactWrongFalsely : Prop := fnLiteralExactRow.holds Try.pinned (OpenSpec.ofChange fnLiteralExactWrong)

/-- 'zzlaws_internal_jsonkeys_b1.FnLiteralSecondCallRefuses': WHATEVER THE INPUT: true; the input reads as it did. -/
def fnLiteralSecondCallRefusesSpec : ChangeSpec := { name := "fnLiteralSecondCallRefuses", fn := fun _ => fun
  | [d1, d2] => { results := [.lit (.bool true)], args := [d1, d2] }
  | _ => none }
def fnLiteralSecondCallRefusesRow : OpenClaim := { program := "qxb6602937a", sum := "d9247ee407a0a553251f37c7e3c6cf6dc44cf37db0e48ffddc80da5548e62be3", func := "example.com/parley/parley/zzlaws_internal_jsonkeys_b1.FnLiteralSecondCallRefuses", spec := "fnLiteralSecondCallRefuses", apart := false }
def FnLiteralSecondCallRefusesSaid : Prop := fnLiteralSecondCallRefusesRow.holds Try.pinned (OpenSpec.ofChange fnLiteralSecondCallRefusesSpec)

/-- ITS FALSE NEIGHBOUR: 'it returns false'. Refute it at one input. -/
def fnLiteralSecondCallRefusesWrong : ChangeSpec := { name := "fnLiteralSecondCallRefuses", fn := fun _ => fun
  | [d1, d2] => { results := [.lit (.bool false)], args := [d1, d2] }
  | _ => none }
def FnLiteralSecondCallRefusesWrongFalsely : Prop := fnLiteralSecondCallRefusesRow.holds Try.pinned (OpenSpec.ofChange fnLiteralSecondCallRefusesWrong)

end Rows
end Go.Proofs.Qxb6602937a
