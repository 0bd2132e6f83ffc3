/-
  No cell of these rows narrows 'for every input' (looked for: loops, veiled, ifaces, maps, wideKeys, modest, calm, conditions, laid).
  DERIVED. THE GIVEN ROWS OF THIS SEAT. 1 by the template 'for every input the law returns true; each argument reads behind the call as it read before'; 0 by the template 'total and deterministic' (their statements: Qxb6603627aTotals.lean).
  GIVEN WITH THE SEED: the statements are not yours to turn. If you find one false, say at which input.
  Laid BY PROGRAM, IN A SANDBOX (cutbox-rows.mjs): the forced cells as the released guide's own fill.sh prints them over the translation 0110e6c35906ca64… (all of the seat's roots in one cut). By AI agents, Wed Nov 11 2026. No macro, syntax, notation, axiom, sorry.
-/
import Derived.Test.Qxb6603627aChecked
import GoSem.Claim
import GoSem.ClaimJoined
import GoSem.ClaimMapViews
import Derived.JoinedTies
import Derived.KernelRfl
namespace Go.Proofs.Qxb6603627a
/- THE CELL 'sum', in the pinned program and in every row, IS THE sha256 OF THE DUMP (.gsa) THAT Qxb6603627aProg.lean LOADS. Nothing in Lean hashes anything: it is a label: what it is worth is what the hold of that sum in a sandbox is worth. -/
noncomputable def Try.pinned : Pinned := { name := "qxb6603627a", sum := "0110e6c35906ca6465e88d59ea82c4c9a40efab9c2d9265583d361b211a373bf", checked := Try.checked }
namespace Rows
def none {H : Type} : Left H := { results := [], args := [] }

/-- 'zzlaws_interp_b1.FnLeavesNestedLoops': WHATEVER THE INPUT: true; the input reads as it did. -/
def fnLeavesNestedLoopsSpec : ChangeSpec := { name := "fnLeavesNestedLoops", fn := fun _ => fun
  | [d1, d2] => { results := [.lit (.bool true)], args := [d1, d2] }
  | _ => none }
def fnLeavesNestedLoopsRow : OpenClaim := { program := "qxb6603627a", sum := "0110e6c35906ca6465e88d59ea82c4c9a40efab9c2d9265583d361b211a373bf", func := "example.com/fencepost/fencepost/zzlaws_interp_b1.FnLeavesNestedLoops", spec := "fnLeavesNestedLoops", apart := false }
def FnLeavesNestedLoopsSaid : Prop := fnLeavesNestedLoopsRow.holds Try.pinned (OpenSpec.ofChange fnLeavesNestedLoopsSpec)

/-- ITS FALSE NEIGHBOUR: 'it returns false'. Refute it at one input. -/
def fnLeavesNestedLoopsWrong : ChangeSpec := { name := "fnLeavesNestedLoops", fn := fun _ => fun
  | [d1, d2] => { results := [.lit (.bool false)], args := [d1, d2] }
  | _ => none }
def FnLeavesNestedLoopsWrongFalsely : Prop := fnLeavesNestedLoopsRow.holds Try.pinned (OpenSpec.ofChange fnLeavesNestedLoopsWrong)

end Rows
end Go.Proofs.Qxb6603627a
