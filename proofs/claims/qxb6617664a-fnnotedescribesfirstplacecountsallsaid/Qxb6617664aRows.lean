/-
  No cell of these rows narrows 'for every input' (looked for: loops, veiled, ifaces, maps, wideKeys, modest, calm, conditions, laid).
  DERIVED. THE GIVEN ROWS OF THIS SEAT. 1 by the template 'for every input the law returns true; each argument reads behind the call as it read before'; 0 by the template 'total and deterministic' (their statements: Qxb6617664aTotals.lean).
  GIVEN WITH THE SEED: the statements are not yours to turn. If you find one false, say at which input.
  Laid BY PROGRAM, IN A SANDBOX (cutbox-rows.mjs): the forced cells as the released guide's own fill.sh prints them over the translation 53b0d75db6f1b3ab… (all of the seat's roots in one cut). By AI agents, Wed Nov 11 2026. No macro, syntax, notation, axiom, sorry.
-/
import Derived.Test.Qxb6617664aChecked
import GoSem.Claim
import GoSem.ClaimJoined
import GoSem.ClaimMapViews
import Derived.JoinedTies
import Derived.KernelRfl
namespace Go.Proofs.Qxb6617664a
/- THE CELL 'sum', in the pinned program and in every row, IS THE sha256 OF THE DUMP (.gsa) THAT Qxb6617664aProg.lean LOADS. Nothing in Lean hashes anything: it is a label: what it is worth is what the hold of that sum in a sandbox is worth. -/
noncomputable def Try.pinned : Pinned := { name := "qxb6617664a", sum := "53b0d75db6f1b3ab2354f8f01f046582bb43b36a4e8fa6bdaf91fb45a7fa5e78", checked := Try.checked }
namespace Rows
def none {H : Type} : Left H := { results := [], args := [] }

/-- 'zzlaws_cert_b1.FnNoteDescribesFirstPlaceCountsAll': WHATEVER THE INPUT: true; the input reads as it did. -/
def fnNoteDescribesFirstPlaceCountsAllSpec : ChangeSpec := { name := "fnNoteDescribesFirstPlaceCountsAll", fn := fun _ => fun
  | [d1, d2, d3, d4, d5] => { results := [.lit (.bool true)], args := [d1, d2, d3, d4, d5] }
  | _ => none }
def fnNoteDescribesFirstPlaceCountsAllRow : OpenClaim := { program := "qxb6617664a", sum := "53b0d75db6f1b3ab2354f8f01f046582bb43b36a4e8fa6bdaf91fb45a7fa5e78", func := "example.com/profilet/profilet/zzlaws_cert_b1.FnNoteDescribesFirstPlaceCountsAll", spec := "fnNoteDescribesFirstPlaceCountsAll", apart := false }
def FnNoteDescribesFirstPlaceCountsAllSaid : Prop := fnNoteDescribesFirstPlaceCountsAllRow.holds Try.pinned (OpenSpec.ofChange fnNoteDescribesFirstPlaceCountsAllSpec)

/-- ITS FALSE NEIGHBOUR: 'it returns false'. Refute it at one input. -/
def fnNoteDescribesFirstPlaceCountsAllWrong : ChangeSpec := { name := "fnNoteDescribesFirstPlaceCountsAll", fn := fun _ => fun
  | [d1, d2, d3, d4, d5] => { results := [.lit (.bool false)], args := [d1, d2, d3, d4, d5] }
  | _ => none }
def FnNoteDescribesFirstPlaceCountsAllWrongFalsely : Prop := fnNoteDescribesFirstPlaceCountsAllRow.holds Try.pinned (OpenSpec.ofChange fnNoteDescribesFirstPlaceCountsAllWrong)

end Rows
end Go.Proofs.Qxb6617664a
