/-
  No cell of these rows narrows 'for every input' (looked for: loops, veiled, ifaces, maps, wideKeys, modest, calm, conditions, laid).
  DERIVED. THE GIVEN ROWS OF THIS SEAT. 5 by the template 'for every input the law returns true; each argument reads behind the call as it read before'; 0 by the template 'total and deterministic' (their statements: Qxb6618690aTotals.lean).
  GIVEN WITH THE SEED: the statements are not yours to turn. If you find one false, say at which input.
  Laid BY PROGRAM, IN A SANDBOX (cutbox-rows.mjs): the forced cells as the released guide's own fill.sh prints them over the translation b4fb54f4d9632c96… (all of the seat's roots in one cut). By AI agents, Wed Nov 11 2026. No macro, syntax, notation, axiom, sorry.
-/
import Derived.Test.Qxb6618690aChecked
import GoSem.Claim
import GoSem.ClaimJoined
import GoSem.ClaimMapViews
import Derived.JoinedTies
import Derived.KernelRfl
namespace Go.Proofs.Qxb6618690a
/- THE CELL 'sum', in the pinned program and in every row, IS THE sha256 OF THE DUMP (.gsa) THAT Qxb6618690aProg.lean LOADS. Nothing in Lean hashes anything: it is a label: what it is worth is what the hold of that sum in a sandbox is worth. -/
noncomputable def Try.pinned : Pinned := { name := "qxb6618690a", sum := "b4fb54f4d9632c96a4f6767b694eb37daabc28483c90f3cd1ec9b656f40d8b17", checked := Try.checked }
namespace Rows
def none {H : Type} : Left H := { results := [], args := [] }

/-- 'zzlaws_extract_b1.FnShownWeighsFourShortAsOneLink': WHATEVER THE INPUT: true; the input reads as it did. -/
def fnShownWeighsFourShortAsOneLinkSpec : ChangeSpec := { name := "fnShownWeighsFourShortAsOneLink", fn := fun _ => fun
  | [d1, d2, d3, d4, d5] => { results := [.lit (.bool true)], args := [d1, d2, d3, d4, d5] }
  | _ => none }
def fnShownWeighsFourShortAsOneLinkRow : OpenClaim := { program := "qxb6618690a", sum := "b4fb54f4d9632c96a4f6767b694eb37daabc28483c90f3cd1ec9b656f40d8b17", func := "example.com/anansi/anansi/zzlaws_extract_b1.FnShownWeighsFourShortAsOneLink", spec := "fnShownWeighsFourShortAsOneLink", apart := false }
def FnShownWeighsFourShortAsOneLinkSaid : Prop := fnShownWeighsFourShortAsOneLinkRow.holds Try.pinned (OpenSpec.ofChange fnShownWeighsFourShortAsOneLinkSpec)

/-- ITS FALSE NEIGHBOUR: 'it returns false'. Refute it at one input. -/
def fnShownWeighsFourShortAsOneLinkWrong : ChangeSpec := { name := "fnShownWeighsFourShortAsOneLink", fn := fun _ => fun
  | [d1, d2, d3, d4, d5] => { results := [.lit (.bool false)], args := [d1, d2, d3, d4, d5] }
  | _ => none }
def FnShownWeighsFourShortAsOneLinkWrongFalsely : Prop := fnShownWeighsFourShortAsOneLinkRow.holds Try.pinned (OpenSpec.ofChange fnShownWeighsFourShortAsOneLinkWrong)

/-- 'zzlaws_extract_b1.FnTellsTurnsOnAtTheThirdParagraph': WHATEVER THE INPUT: true; the input reads as it did. -/
def fnTellsTurnsOnAtTheThirdParagraphSpec : ChangeSpec := { name := "fnTellsTurnsOnAtTheThirdParagraph", fn := fun _ => fun
  | [d1, d2] => { results := [.lit (.bool true)], args := [d1, d2] }
  | _ => none }
def fnTellsTurnsOnAtTheThirdParagraphRow : OpenClaim := { program := "qxb6618690a", sum := "b4fb54f4d9632c96a4f6767b694eb37daabc28483c90f3cd1ec9b656f40d8b17", func := "example.com/anansi/anansi/zzlaws_extract_b1.FnTellsTurnsOnAtTheThirdParagraph", spec := "fnTellsTurnsOnAtTheThirdParagraph", apart := false }
def FnTellsTurnsOnAtTheThirdParagraphSaid : Prop := fnTellsTurnsOnAtTheThirdParagraphRow.holds Try.pinned (OpenSpec.ofChange fnTellsTurnsOnAtTheThirdParagraphSpec)

/-- ITS FALSE NEIGHBOUR: 'it returns false'. Refute it at one input. -/
def fnTellsTurnsOnAtTheThirdParagraphWrong : ChangeSpec := { name := "fnTellsTurnsOnAtTheThirdParagraph", fn := fun _ => fun
  | [d1, d2] => { results := [.lit (.bool false)], args := [d1, d2] }
  | _ => none }
def FnTellsTurnsOnAtTheThirdParagraphWrongFalsely : Prop := fnTellsTurnsOnAtTheThirdParagraphRow.holds Try.pinned (OpenSpec.ofChange fnTellsTurnsOnAtTheThirdParagraphWrong)

/-- 'zzlaws_extract_b1.FnTellsHangsOnTheHeadingOnlyAsPresent': WHATEVER THE INPUT: true; the input reads as it did. -/
def fnTellsHangsOnTheHeadingOnlyAsPresentSpec : ChangeSpec := { name := "fnTellsHangsOnTheHeadingOnlyAsPresent", fn := fun _ => fun
  | [d1, d2, d3, d4] => { results := [.lit (.bool true)], args := [d1, d2, d3, d4] }
  | _ => none }
def fnTellsHangsOnTheHeadingOnlyAsPresentRow : OpenClaim := { program := "qxb6618690a", sum := "b4fb54f4d9632c96a4f6767b694eb37daabc28483c90f3cd1ec9b656f40d8b17", func := "example.com/anansi/anansi/zzlaws_extract_b1.FnTellsHangsOnTheHeadingOnlyAsPresent", spec := "fnTellsHangsOnTheHeadingOnlyAsPresent", apart := false }
def FnTellsHangsOnTheHeadingOnlyAsPresentSaid : Prop := fnTellsHangsOnTheHeadingOnlyAsPresentRow.holds Try.pinned (OpenSpec.ofChange fnTellsHangsOnTheHeadingOnlyAsPresentSpec)

/-- ITS FALSE NEIGHBOUR: 'it returns false'. Refute it at one input. -/
def fnTellsHangsOnTheHeadingOnlyAsPresentWrong : ChangeSpec := { name := "fnTellsHangsOnTheHeadingOnlyAsPresent", fn := fun _ => fun
  | [d1, d2, d3, d4] => { results := [.lit (.bool false)], args := [d1, d2, d3, d4] }
  | _ => none }
def FnTellsHangsOnTheHeadingOnlyAsPresentWrongFalsely : Prop := fnTellsHangsOnTheHeadingOnlyAsPresentRow.holds Try.pinned (OpenSpec.ofChange fnTellsHangsOnTheHeadingOnlyAsPresentWrong)

/-- 'zzlaws_extract_b1.FnAppendBytesRecordsReadBack': WHATEVER THE INPUT: true; the input reads as it did. -/
def fnAppendBytesRecordsReadBackSpec : ChangeSpec := { name := "fnAppendBytesRecordsReadBack", fn := fun _ => fun
  | [d1, d2, d3] => { results := [.lit (.bool true)], args := [d1, d2, d3] }
  | _ => none }
def fnAppendBytesRecordsReadBackRow : OpenClaim := { program := "qxb6618690a", sum := "b4fb54f4d9632c96a4f6767b694eb37daabc28483c90f3cd1ec9b656f40d8b17", func := "example.com/anansi/anansi/zzlaws_extract_b1.FnAppendBytesRecordsReadBack", spec := "fnAppendBytesRecordsReadBack", apart := false }
def FnAppendBytesRecordsReadBackSaid : Prop := fnAppendBytesRecordsReadBackRow.holds Try.pinned (OpenSpec.ofChange fnAppendBytesRecordsReadBackSpec)

/-- ITS FALSE NEIGHBOUR: 'it returns false'. Refute it at one input. -/
def fnAppendBytesRecordsReadBackWrong : ChangeSpec := { name := "fnAppendBytesRecordsReadBack", fn := fun _ => fun
  | [d1, d2, d3] => { results := [.lit (.bool false)], args := [d1, d2, d3] }
  | _ => none }
def FnAppendBytesRecordsReadBackWrongFalsely : Prop := fnAppendBytesRecordsReadBackRow.holds Try.pinned (OpenSpec.ofChange fnAppendBytesRecordsReadBackWrong)

/-- 'zzlaws_extract_b1.FnAppendBytesAddsTheSameFrameWhateverStandsBefore': WHATEVER THE INPUT: true; the input reads as it did. -/
def fnAppendBytesAddsTheSameFrameWhateverStandsBeforeSpec : ChangeSpec := { name := "fnAppendBytesAddsTheSameFrameWhateverStandsBefore", fn := fun _ => fun
  | [d1, d2] => { results := [.lit (.bool true)], args := [d1, d2] }
  | _ => none }
def fnAppendBytesAddsTheSameFrameWhateverStandsBeforeRow : OpenClaim := { program := "qxb6618690a", sum := "b4fb54f4d9632c96a4f6767b694eb37daabc28483c90f3cd1ec9b656f40d8b17", func := "example.com/anansi/anansi/zzlaws_extract_b1.FnAppendBytesAddsTheSameFrameWhateverStandsBefore", spec := "fnAppendBytesAddsTheSameFrameWhateverStandsBefore", apart := false }
def FnAppendBytesAddsTheSameFrameWhateverStandsBeforeSaid : Prop := fnAppendBytesAddsTheSameFrameWhateverStandsBeforeRow.holds Try.pinned (OpenSpec.ofChange fnAppendBytesAddsTheSameFrameWhateverStandsBeforeSpec)

/-- ITS FALSE NEIGHBOUR: 'it returns false'. Refute it at one input. -/
def fnAppendBytesAddsTheSameFrameWhateverStandsBeforeWrong : ChangeSpec := { name := "fnAppendBytesAddsTheSameFrameWhateverStandsBefore", fn := fun _ => fun
  | [d1, d2] => { results := [.lit (.bool false)], args := [d1, d2] }
  | _ => none }
def FnAppendBytesAddsTheSameFrameWhateverStandsBeforeWrongFalsely : Prop := fnAppendBytesAddsTheSameFrameWhateverStandsBeforeRow.holds Try.pinned (OpenSpec.ofChange fnAppendBytesAddsTheSameFrameWhateverStandsBeforeWrong)

end Rows
end Go.Proofs.Qxb6618690a
