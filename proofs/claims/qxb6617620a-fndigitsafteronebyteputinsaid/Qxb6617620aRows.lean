/-
  No cell of these rows narrows 'for every input' (looked for: loops, veiled, ifaces, maps, wideKeys, modest, calm, conditions, laid).
  DERIVED. THE GIVEN ROWS OF THIS SEAT. 2 by the template 'for every input the law returns true; each argument reads behind the call as it read before'; 0 by the template 'total and deterministic' (their statements: Qxb6617620aTotals.lean).
  GIVEN WITH THE SEED: the statements are not yours to turn. If you find one false, say at which input.
  Laid BY PROGRAM, IN A SANDBOX (cutbox-rows.mjs): the forced cells as the released guide's own fill.sh prints them over the translation bab495f3943c53db… (all of the seat's roots in one cut). By AI agents, Wed Nov 11 2026. No macro, syntax, notation, axiom, sorry.
-/
import Derived.Test.Qxb6617620aChecked
import GoSem.Claim
import GoSem.ClaimJoined
import GoSem.ClaimMapViews
import Derived.JoinedTies
import Derived.KernelRfl
namespace Go.Proofs.Qxb6617620a
/- THE CELL 'sum', in the pinned program and in every row, IS THE sha256 OF THE DUMP (.gsa) THAT Qxb6617620aProg.lean LOADS. Nothing in Lean hashes anything: it is a label: what it is worth is what the hold of that sum in a sandbox is worth. -/
noncomputable def Try.pinned : Pinned := { name := "qxb6617620a", sum := "bab495f3943c53db4420d159b78a151f3304eaad82132ff184adf7c146e6b4a7", checked := Try.checked }
namespace Rows
def none {H : Type} : Left H := { results := [], args := [] }

/-- 'zzlaws_internal_number_b1.FnDigitsSplitsAtAnyCut': WHATEVER THE INPUT: true; the input reads as it did. -/
def fnDigitsSplitsAtAnyCutSpec : ChangeSpec := { name := "fnDigitsSplitsAtAnyCut", fn := fun _ => fun
  | [d1, d2, d3] => { results := [.lit (.bool true)], args := [d1, d2, d3] }
  | _ => none }
def fnDigitsSplitsAtAnyCutRow : OpenClaim := { program := "qxb6617620a", sum := "bab495f3943c53db4420d159b78a151f3304eaad82132ff184adf7c146e6b4a7", func := "example.com/weir/weir/zzlaws_internal_number_b1.FnDigitsSplitsAtAnyCut", spec := "fnDigitsSplitsAtAnyCut", apart := false }
def FnDigitsSplitsAtAnyCutSaid : Prop := fnDigitsSplitsAtAnyCutRow.holds Try.pinned (OpenSpec.ofChange fnDigitsSplitsAtAnyCutSpec)

/-- ITS FALSE NEIGHBOUR: 'it returns false'. Refute it at one input. -/
def fnDigitsSplitsAtAnyCutWrong : ChangeSpec := { name := "fnDigitsSplitsAtAnyCut", fn := fun _ => fun
  | [d1, d2, d3] => { results := [.lit (.bool false)], args := [d1, d2, d3] }
  | _ => none }
def FnDigitsSplitsAtAnyCutWrongFalsely : Prop := fnDigitsSplitsAtAnyCutRow.holds Try.pinned (OpenSpec.ofChange fnDigitsSplitsAtAnyCutWrong)

/-- 'zzlaws_internal_number_b1.FnDigitsAfterOneBytePutIn': WHATEVER THE INPUT: true; the input reads as it did. -/
def fnDigitsAfterOneBytePutInSpec : ChangeSpec := { name := "fnDigitsAfterOneBytePutIn", fn := fun _ => fun
  | [d1, d2, d3, d4] => { results := [.lit (.bool true)], args := [d1, d2, d3, d4] }
  | _ => none }
def fnDigitsAfterOneBytePutInRow : OpenClaim := { program := "qxb6617620a", sum := "bab495f3943c53db4420d159b78a151f3304eaad82132ff184adf7c146e6b4a7", func := "example.com/weir/weir/zzlaws_internal_number_b1.FnDigitsAfterOneBytePutIn", spec := "fnDigitsAfterOneBytePutIn", apart := false }
def FnDigitsAfterOneBytePutInSaid : Prop := fnDigitsAfterOneBytePutInRow.holds Try.pinned (OpenSpec.ofChange fnDigitsAfterOneBytePutInSpec)

/-- ITS FALSE NEIGHBOUR: 'it returns false'. Refute it at one input. -/
def fnDigitsAfterOneBytePutInWrong : ChangeSpec := { name := "fnDigitsAfterOneBytePutIn", fn := fun _ => fun
  | [d1, d2, d3, d4] => { results := [.lit (.bool false)], args := [d1, d2, d3, d4] }
  | _ => none }
def FnDigitsAfterOneBytePutInWrongFalsely : Prop := fnDigitsAfterOneBytePutInRow.holds Try.pinned (OpenSpec.ofChange fnDigitsAfterOneBytePutInWrong)

end Rows
end Go.Proofs.Qxb6617620a
