/-
  No cell of these rows narrows 'for every input' (looked for: loops, veiled, ifaces, maps, wideKeys, modest, calm, conditions, laid).
  DERIVED. THE GIVEN ROWS OF THIS SEAT. 2 by the template 'for every input the law returns true; each argument reads behind the call as it read before'; 0 by the template 'total and deterministic' (their statements: Qxb6617989aTotals.lean).
  GIVEN WITH THE SEED: the statements are not yours to turn. If you find one false, say at which input.
  Laid BY PROGRAM, IN A SANDBOX (cutbox-rows.mjs): the forced cells as the released guide's own fill.sh prints them over the translation 094ad9ad65272cbb… (all of the seat's roots in one cut). By AI agents, Wed Nov 11 2026. No macro, syntax, notation, axiom, sorry.
-/
import Derived.Test.Qxb6617989aChecked
import GoSem.Claim
import GoSem.ClaimJoined
import GoSem.ClaimMapViews
import Derived.JoinedTies
import Derived.KernelRfl
namespace Go.Proofs.Qxb6617989a
/- THE CELL 'sum', in the pinned program and in every row, IS THE sha256 OF THE DUMP (.gsa) THAT Qxb6617989aProg.lean LOADS. Nothing in Lean hashes anything: it is a label: what it is worth is what the hold of that sum in a sandbox is worth. -/
noncomputable def Try.pinned : Pinned := { name := "qxb6617989a", sum := "094ad9ad65272cbb1cbb5756bcd565ae1d760a1b7a9a12bff2dfdf77f97ef867", checked := Try.checked }
namespace Rows
def none {H : Type} : Left H := { results := [], args := [] }

/-- 'zzlaws_root_b1.FnShlIsBitShift': WHATEVER THE INPUT: true; the input reads as it did. -/
def fnShlIsBitShiftSpec : ChangeSpec := { name := "fnShlIsBitShift", fn := fun _ => fun
  | [d1, d2] => { results := [.lit (.bool true)], args := [d1, d2] }
  | _ => none }
def fnShlIsBitShiftRow : OpenClaim := { program := "qxb6617989a", sum := "094ad9ad65272cbb1cbb5756bcd565ae1d760a1b7a9a12bff2dfdf77f97ef867", func := "example.com/fieldwright/fieldwright/zzlaws_root_b1.FnShlIsBitShift", spec := "fnShlIsBitShift", apart := false }
def FnShlIsBitShiftSaid : Prop := fnShlIsBitShiftRow.holds Try.pinned (OpenSpec.ofChange fnShlIsBitShiftSpec)

/-- ITS FALSE NEIGHBOUR: 'it returns false'. Refute it at one input. -/
def fnShlIsBitShiftWrong : ChangeSpec := { name := "fnShlIsBitShift", fn := fun _ => fun
  | [d1, d2] => { results := [.lit (.bool false)], args := [d1, d2] }
  | _ => none }
def FnShlIsBitShiftWrongFalsely : Prop := fnShlIsBitShiftRow.holds Try.pinned (OpenSpec.ofChange fnShlIsBitShiftWrong)

/-- 'zzlaws_root_b1.FnShlComposesAndMovesBits': WHATEVER THE INPUT: true; the input reads as it did. -/
def fnShlComposesAndMovesBitsSpec : ChangeSpec := { name := "fnShlComposesAndMovesBits", fn := fun _ => fun
  | [d1, d2, d3] => { results := [.lit (.bool true)], args := [d1, d2, d3] }
  | _ => none }
def fnShlComposesAndMovesBitsRow : OpenClaim := { program := "qxb6617989a", sum := "094ad9ad65272cbb1cbb5756bcd565ae1d760a1b7a9a12bff2dfdf77f97ef867", func := "example.com/fieldwright/fieldwright/zzlaws_root_b1.FnShlComposesAndMovesBits", spec := "fnShlComposesAndMovesBits", apart := false }
def FnShlComposesAndMovesBitsSaid : Prop := fnShlComposesAndMovesBitsRow.holds Try.pinned (OpenSpec.ofChange fnShlComposesAndMovesBitsSpec)

/-- ITS FALSE NEIGHBOUR: 'it returns false'. Refute it at one input. -/
def fnShlComposesAndMovesBitsWrong : ChangeSpec := { name := "fnShlComposesAndMovesBits", fn := fun _ => fun
  | [d1, d2, d3] => { results := [.lit (.bool false)], args := [d1, d2, d3] }
  | _ => none }
def FnShlComposesAndMovesBitsWrongFalsely : Prop := fnShlComposesAndMovesBitsRow.holds Try.pinned (OpenSpec.ofChange fnShlComposesAndMovesBitsWrong)

end Rows
end Go.Proofs.Qxb6617989a
