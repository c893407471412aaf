/-
  No cell of these rows narrows 'for every input' (looked for: loops, veiled, ifaces, maps, wideKeys, modest, calm, conditions, laid).
  DERIVED. THE GIVEN ROWS OF THIS SEAT. 6 by the template 'for every input the law returns true; each argument reads behind the call as it read before'; 0 by the template 'total and deterministic' (their statements: Qxb6615153aTotals.lean).
  GIVEN WITH THE SEED: the statements are not yours to turn. If you find one false, say at which input.
  Laid BY PROGRAM, IN A SANDBOX (cutbox-rows.mjs): the forced cells as the released guide's own fill.sh prints them over the translation 4e98ef2f08acb88f… (all of the seat's roots in one cut). By AI agents, Wed Nov 11 2026. No macro, syntax, notation, axiom, sorry.
-/
import Derived.Test.Qxb6615153aChecked
import GoSem.Claim
import GoSem.ClaimJoined
import GoSem.ClaimMapViews
import Derived.JoinedTies
import Derived.KernelRfl
namespace Go.Proofs.Qxb6615153a
/- THE CELL 'sum', in the pinned program and in every row, IS THE sha256 OF THE DUMP (.gsa) THAT Qxb6615153aProg.lean LOADS. Nothing in Lean hashes anything: it is a label: what it is worth is what the hold of that sum in a sandbox is worth. -/
noncomputable def Try.pinned : Pinned := { name := "qxb6615153a", sum := "4e98ef2f08acb88fff2e8425a6dfc67aea96f6bc9eec68e2cc6588dd0234ea95", checked := Try.checked }
namespace Rows
def none {H : Type} : Left H := { results := [], args := [] }

/-- 'zzlaws_internal_text_b1.FnCodePointsSplitAtAnyCut': WHATEVER THE INPUT: true; the input reads as it did. -/
def fnCodePointsSplitAtAnyCutSpec : ChangeSpec := { name := "fnCodePointsSplitAtAnyCut", fn := fun _ => fun
  | [d1, d2, d3, d4, d5, d6, d7, d8, d9, d10] => { results := [.lit (.bool true)], args := [d1, d2, d3, d4, d5, d6, d7, d8, d9, d10] }
  | _ => none }
def fnCodePointsSplitAtAnyCutRow : OpenClaim := { program := "qxb6615153a", sum := "4e98ef2f08acb88fff2e8425a6dfc67aea96f6bc9eec68e2cc6588dd0234ea95", func := "example.com/syncline/syncline/zzlaws_internal_text_b1.FnCodePointsSplitAtAnyCut", spec := "fnCodePointsSplitAtAnyCut", apart := false }
def FnCodePointsSplitAtAnyCutSaid : Prop := fnCodePointsSplitAtAnyCutRow.holds Try.pinned (OpenSpec.ofChange fnCodePointsSplitAtAnyCutSpec)

/-- ITS FALSE NEIGHBOUR: 'it returns false'. Refute it at one input. -/
def fnCodePointsSplitAtAnyCutWrong : ChangeSpec := { name := "fnCodePointsSplitAtAnyCut", fn := fun _ => fun
  | [d1, d2, d3, d4, d5, d6, d7, d8, d9, d10] => { results := [.lit (.bool false)], args := [d1, d2, d3, d4, d5, d6, d7, d8, d9, d10] }
  | _ => none }
def FnCodePointsSplitAtAnyCutWrongFalsely : Prop := fnCodePointsSplitAtAnyCutRow.holds Try.pinned (OpenSpec.ofChange fnCodePointsSplitAtAnyCutWrong)

/-- 'zzlaws_internal_text_b1.FnFullFoldOfAnyPrefix': WHATEVER THE INPUT: true; the input reads as it did. -/
def fnFullFoldOfAnyPrefixSpec : ChangeSpec := { name := "fnFullFoldOfAnyPrefix", fn := fun _ => fun
  | [d1, d2, d3, d4, d5, d6] => { results := [.lit (.bool true)], args := [d1, d2, d3, d4, d5, d6] }
  | _ => none }
def fnFullFoldOfAnyPrefixRow : OpenClaim := { program := "qxb6615153a", sum := "4e98ef2f08acb88fff2e8425a6dfc67aea96f6bc9eec68e2cc6588dd0234ea95", func := "example.com/syncline/syncline/zzlaws_internal_text_b1.FnFullFoldOfAnyPrefix", spec := "fnFullFoldOfAnyPrefix", apart := false }
def FnFullFoldOfAnyPrefixSaid : Prop := fnFullFoldOfAnyPrefixRow.holds Try.pinned (OpenSpec.ofChange fnFullFoldOfAnyPrefixSpec)

/-- ITS FALSE NEIGHBOUR: 'it returns false'. Refute it at one input. -/
def fnFullFoldOfAnyPrefixWrong : ChangeSpec := { name := "fnFullFoldOfAnyPrefix", fn := fun _ => fun
  | [d1, d2, d3, d4, d5, d6] => { results := [.lit (.bool false)], args := [d1, d2, d3, d4, d5, d6] }
  | _ => none }
def FnFullFoldOfAnyPrefixWrongFalsely : Prop := fnFullFoldOfAnyPrefixRow.holds Try.pinned (OpenSpec.ofChange fnFullFoldOfAnyPrefixWrong)

/-- 'zzlaws_internal_text_b1.FnCodePointsScriptAppendsEachPiece': WHATEVER THE INPUT: true; the input reads as it did. -/
def fnCodePointsScriptAppendsEachPieceSpec : ChangeSpec := { name := "fnCodePointsScriptAppendsEachPiece", fn := fun _ => fun
  | [d1, d2] => { results := [.lit (.bool true)], args := [d1, d2] }
  | _ => none }
def fnCodePointsScriptAppendsEachPieceRow : OpenClaim := { program := "qxb6615153a", sum := "4e98ef2f08acb88fff2e8425a6dfc67aea96f6bc9eec68e2cc6588dd0234ea95", func := "example.com/syncline/syncline/zzlaws_internal_text_b1.FnCodePointsScriptAppendsEachPiece", spec := "fnCodePointsScriptAppendsEachPiece", apart := false }
def FnCodePointsScriptAppendsEachPieceSaid : Prop := fnCodePointsScriptAppendsEachPieceRow.holds Try.pinned (OpenSpec.ofChange fnCodePointsScriptAppendsEachPieceSpec)

/-- ITS FALSE NEIGHBOUR: 'it returns false'. Refute it at one input. -/
def fnCodePointsScriptAppendsEachPieceWrong : ChangeSpec := { name := "fnCodePointsScriptAppendsEachPiece", fn := fun _ => fun
  | [d1, d2] => { results := [.lit (.bool false)], args := [d1, d2] }
  | _ => none }
def FnCodePointsScriptAppendsEachPieceWrongFalsely : Prop := fnCodePointsScriptAppendsEachPieceRow.holds Try.pinned (OpenSpec.ofChange fnCodePointsScriptAppendsEachPieceWrong)

/-- 'zzlaws_internal_text_b1.FnNextKnownFirstKnownFromAnyCursor': WHATEVER THE INPUT: true; the input reads as it did. -/
def fnNextKnownFirstKnownFromAnyCursorSpec : ChangeSpec := { name := "fnNextKnownFirstKnownFromAnyCursor", fn := fun _ => fun
  | [d1, d2, d3, d4, d5] => { results := [.lit (.bool true)], args := [d1, d2, d3, d4, d5] }
  | _ => none }
def fnNextKnownFirstKnownFromAnyCursorRow : OpenClaim := { program := "qxb6615153a", sum := "4e98ef2f08acb88fff2e8425a6dfc67aea96f6bc9eec68e2cc6588dd0234ea95", func := "example.com/syncline/syncline/zzlaws_internal_text_b1.FnNextKnownFirstKnownFromAnyCursor", spec := "fnNextKnownFirstKnownFromAnyCursor", apart := false }
def FnNextKnownFirstKnownFromAnyCursorSaid : Prop := fnNextKnownFirstKnownFromAnyCursorRow.holds Try.pinned (OpenSpec.ofChange fnNextKnownFirstKnownFromAnyCursorSpec)

/-- ITS FALSE NEIGHBOUR: 'it returns false'. Refute it at one input. -/
def fnNextKnownFirstKnownFromAnyCursorWrong : ChangeSpec := { name := "fnNextKnownFirstKnownFromAnyCursor", fn := fun _ => fun
  | [d1, d2, d3, d4, d5] => { results := [.lit (.bool false)], args := [d1, d2, d3, d4, d5] }
  | _ => none }
def FnNextKnownFirstKnownFromAnyCursorWrongFalsely : Prop := fnNextKnownFirstKnownFromAnyCursorRow.holds Try.pinned (OpenSpec.ofChange fnNextKnownFirstKnownFromAnyCursorWrong)

/-- 'zzlaws_internal_text_b1.FnNextKnownWalkVisitsEachKnownOnce': WHATEVER THE INPUT: true; the input reads as it did. -/
def fnNextKnownWalkVisitsEachKnownOnceSpec : ChangeSpec := { name := "fnNextKnownWalkVisitsEachKnownOnce", fn := fun _ => fun
  | [d] => { results := [.lit (.bool true)], args := [d] }
  | _ => none }
def fnNextKnownWalkVisitsEachKnownOnceRow : OpenClaim := { program := "qxb6615153a", sum := "4e98ef2f08acb88fff2e8425a6dfc67aea96f6bc9eec68e2cc6588dd0234ea95", func := "example.com/syncline/syncline/zzlaws_internal_text_b1.FnNextKnownWalkVisitsEachKnownOnce", spec := "fnNextKnownWalkVisitsEachKnownOnce", apart := false }
def FnNextKnownWalkVisitsEachKnownOnceSaid : Prop := fnNextKnownWalkVisitsEachKnownOnceRow.holds Try.pinned (OpenSpec.ofChange fnNextKnownWalkVisitsEachKnownOnceSpec)

/-- ITS FALSE NEIGHBOUR: 'it returns false'. Refute it at one input. -/
def fnNextKnownWalkVisitsEachKnownOnceWrong : ChangeSpec := { name := "fnNextKnownWalkVisitsEachKnownOnce", fn := fun _ => fun
  | [d] => { results := [.lit (.bool false)], args := [d] }
  | _ => none }
def FnNextKnownWalkVisitsEachKnownOnceWrongFalsely : Prop := fnNextKnownWalkVisitsEachKnownOnceRow.holds Try.pinned (OpenSpec.ofChange fnNextKnownWalkVisitsEachKnownOnceWrong)

/-- 'zzlaws_internal_text_b1.FnFullApplyingNewerKeepsIt': WHATEVER THE INPUT: true; the input reads as it did. -/
def fnFullApplyingNewerKeepsItSpec : ChangeSpec := { name := "fnFullApplyingNewerKeepsIt", fn := fun _ => fun
  | [d1, d2, d3, d4, d5, d6] => { results := [.lit (.bool true)], args := [d1, d2, d3, d4, d5, d6] }
  | _ => none }
def fnFullApplyingNewerKeepsItRow : OpenClaim := { program := "qxb6615153a", sum := "4e98ef2f08acb88fff2e8425a6dfc67aea96f6bc9eec68e2cc6588dd0234ea95", func := "example.com/syncline/syncline/zzlaws_internal_text_b1.FnFullApplyingNewerKeepsIt", spec := "fnFullApplyingNewerKeepsIt", apart := false }
def FnFullApplyingNewerKeepsItSaid : Prop := fnFullApplyingNewerKeepsItRow.holds Try.pinned (OpenSpec.ofChange fnFullApplyingNewerKeepsItSpec)

/-- ITS FALSE NEIGHBOUR: 'it returns false'. Refute it at one input. -/
def fnFullApplyingNewerKeepsItWrong : ChangeSpec := { name := "fnFullApplyingNewerKeepsIt", fn := fun _ => fun
  | [d1, d2, d3, d4, d5, d6] => { results := [.lit (.bool false)], args := [d1, d2, d3, d4, d5, d6] }
  | _ => none }
def FnFullApplyingNewerKeepsItWrongFalsely : Prop := fnFullApplyingNewerKeepsItRow.holds Try.pinned (OpenSpec.ofChange fnFullApplyingNewerKeepsItWrong)

end Rows
end Go.Proofs.Qxb6615153a
