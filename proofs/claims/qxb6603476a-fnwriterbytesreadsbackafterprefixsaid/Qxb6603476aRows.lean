/-
  No cell of these rows narrows 'for every input' (looked for: loops, veiled, ifaces, maps, wideKeys, modest, calm, conditions, laid).
  DERIVED. THE GIVEN ROWS OF THIS SEAT. 2 by the template 'for every input the law returns true; each argument reads behind the call as it read before'; 0 by the template 'total and deterministic' (their statements: Qxb6603476aTotals.lean).
  GIVEN WITH THE SEED: the statements are not yours to turn. If you find one false, say at which input.
  Laid BY PROGRAM, IN A SANDBOX (cutbox-rows.mjs): the forced cells as the released guide's own fill.sh prints them over the translation e3fd3fd7b69d600a… (all of the seat's roots in one cut). By AI agents, Wed Nov 11 2026. No macro, syntax, notation, axiom, sorry.
-/
import Derived.Test.Qxb6603476aChecked
import GoSem.Claim
import GoSem.ClaimJoined
import GoSem.ClaimMapViews
import Derived.JoinedTies
import Derived.KernelRfl
namespace Go.Proofs.Qxb6603476a
/- THE CELL 'sum', in the pinned program and in every row, IS THE sha256 OF THE DUMP (.gsa) THAT Qxb6603476aProg.lean LOADS. Nothing in Lean hashes anything: it is a label: what it is worth is what the hold of that sum in a sandbox is worth. -/
noncomputable def Try.pinned : Pinned := { name := "qxb6603476a", sum := "e3fd3fd7b69d600ab59c97438da8f730bd24507708538ff46594f04dae680d68", checked := Try.checked }
namespace Rows
def none {H : Type} : Left H := { results := [], args := [] }

/-- 'zzlaws_internal_protocol_b1.FnWriterBytesReadsBackAfterPrefix': WHATEVER THE INPUT: true; the input reads as it did. -/
def fnWriterBytesReadsBackAfterPrefixSpec : ChangeSpec := { name := "fnWriterBytesReadsBackAfterPrefix", fn := fun _ => fun
  | [d1, d2] => { results := [.lit (.bool true)], args := [d1, d2] }
  | _ => none }
def fnWriterBytesReadsBackAfterPrefixRow : OpenClaim := { program := "qxb6603476a", sum := "e3fd3fd7b69d600ab59c97438da8f730bd24507708538ff46594f04dae680d68", func := "example.com/quorumkeep/quorumkeep/zzlaws_internal_protocol_b1.FnWriterBytesReadsBackAfterPrefix", spec := "fnWriterBytesReadsBackAfterPrefix", named := ["encoding/binary.BigEndian"], apart := false }
def FnWriterBytesReadsBackAfterPrefixSaid : Prop := fnWriterBytesReadsBackAfterPrefixRow.holds Try.pinned (OpenSpec.ofChange fnWriterBytesReadsBackAfterPrefixSpec)

/-- ITS FALSE NEIGHBOUR: 'it returns false'. Refute it at one input. -/
def fnWriterBytesReadsBackAfterPrefixWrong : ChangeSpec := { name := "fnWriterBytesReadsBackAfterPrefix", fn := fun _ => fun
  | [d1, d2] => { results := [.lit (.bool false)], args := [d1, d2] }
  | _ => none }
def FnWriterBytesReadsBackAfterPrefixWrongFalsely : Prop := fnWriterBytesReadsBackAfterPrefixRow.holds Try.pinned (OpenSpec.ofChange fnWriterBytesReadsBackAfterPrefixWrong)

/-- 'zzlaws_internal_protocol_b1.FnWriterBytesTwoFieldsKeepTheirBounds': WHATEVER THE INPUT: true; the input reads as it did. -/
def fnWriterBytesTwoFieldsKeepTheirBoundsSpec : ChangeSpec := { name := "fnWriterBytesTwoFieldsKeepTheirBounds", fn := fun _ => fun
  | [d1, d2] => { results := [.lit (.bool true)], args := [d1, d2] }
  | _ => none }
def fnWriterBytesTwoFieldsKeepTheirBoundsRow : OpenClaim := { program := "qxb6603476a", sum := "e3fd3fd7b69d600ab59c97438da8f730bd24507708538ff46594f04dae680d68", func := "example.com/quorumkeep/quorumkeep/zzlaws_internal_protocol_b1.FnWriterBytesTwoFieldsKeepTheirBounds", spec := "fnWriterBytesTwoFieldsKeepTheirBounds", named := ["encoding/binary.BigEndian"], apart := false }
def FnWriterBytesTwoFieldsKeepTheirBoundsSaid : Prop := fnWriterBytesTwoFieldsKeepTheirBoundsRow.holds Try.pinned (OpenSpec.ofChange fnWriterBytesTwoFieldsKeepTheirBoundsSpec)

/-- ITS FALSE NEIGHBOUR: 'it returns false'. Refute it at one input. -/
def fnWriterBytesTwoFieldsKeepTheirBoundsWrong : ChangeSpec := { name := "fnWriterBytesTwoFieldsKeepTheirBounds", fn := fun _ => fun
  | [d1, d2] => { results := [.lit (.bool false)], args := [d1, d2] }
  | _ => none }
def FnWriterBytesTwoFieldsKeepTheirBoundsWrongFalsely : Prop := fnWriterBytesTwoFieldsKeepTheirBoundsRow.holds Try.pinned (OpenSpec.ofChange fnWriterBytesTwoFieldsKeepTheirBoundsWrong)

end Rows
end Go.Proofs.Qxb6603476a
