/-
  No cell of these rows narrows 'for every input' (looked for: loops, veiled, ifaces, maps, wideKeys, modest, calm, conditions, laid).
  DERIVED. THE GIVEN ROWS OF THIS SEAT. 2 by the template 'for every input the law returns true; each argument reads behind the call as it read before'; 0 by the template 'total and deterministic' (their statements: Qxb6617596aTotals.lean).
  GIVEN WITH THE SEED: the statements are not yours to turn. If you find one false, say at which input.
  Laid BY PROGRAM, IN A SANDBOX (cutbox-rows.mjs): the forced cells as the released guide's own fill.sh prints them over the translation abe03d50ddf8138f… (all of the seat's roots in one cut). By AI agents, Wed Nov 11 2026. No macro, syntax, notation, axiom, sorry.
-/
import Derived.Test.Qxb6617596aChecked
import GoSem.Claim
import GoSem.ClaimJoined
import GoSem.ClaimMapViews
import Derived.JoinedTies
import Derived.KernelRfl
namespace Go.Proofs.Qxb6617596a
/- THE CELL 'sum', in the pinned program and in every row, IS THE sha256 OF THE DUMP (.gsa) THAT Qxb6617596aProg.lean LOADS. Nothing in Lean hashes anything: it is a label: what it is worth is what the hold of that sum in a sandbox is worth. -/
noncomputable def Try.pinned : Pinned := { name := "qxb6617596a", sum := "abe03d50ddf8138f0055a437ed49c5567e29d4e3431001bf95c59f386ef13074", checked := Try.checked }
namespace Rows
def none {H : Type} : Left H := { results := [], args := [] }

/-- 'zzlaws_assign_b1.FnMultiplyAppendColumn': WHATEVER THE INPUT: true; the input reads as it did. -/
def fnMultiplyAppendColumnSpec : ChangeSpec := { name := "fnMultiplyAppendColumn", fn := fun _ => fun
  | [d1, d2, d3, d4] => { results := [.lit (.bool true)], args := [d1, d2, d3, d4] }
  | _ => none }
def fnMultiplyAppendColumnRow : OpenClaim := { program := "qxb6617596a", sum := "abe03d50ddf8138f0055a437ed49c5567e29d4e3431001bf95c59f386ef13074", func := "example.com/cairnway/cairnway/zzlaws_assign_b1.FnMultiplyAppendColumn", spec := "fnMultiplyAppendColumn", apart := false }
def FnMultiplyAppendColumnSaid : Prop := fnMultiplyAppendColumnRow.holds Try.pinned (OpenSpec.ofChange fnMultiplyAppendColumnSpec)

/-- ITS FALSE NEIGHBOUR: 'it returns false'. Refute it at one input. -/
def fnMultiplyAppendColumnWrong : ChangeSpec := { name := "fnMultiplyAppendColumn", fn := fun _ => fun
  | [d1, d2, d3, d4] => { results := [.lit (.bool false)], args := [d1, d2, d3, d4] }
  | _ => none }
def FnMultiplyAppendColumnWrongFalsely : Prop := fnMultiplyAppendColumnRow.holds Try.pinned (OpenSpec.ofChange fnMultiplyAppendColumnWrong)

/-- 'zzlaws_assign_b1.FnMultiplyRowsAndSign': WHATEVER THE INPUT: true; the input reads as it did. -/
def fnMultiplyRowsAndSignSpec : ChangeSpec := { name := "fnMultiplyRowsAndSign", fn := fun _ => fun
  | [d1, d2, d3] => { results := [.lit (.bool true)], args := [d1, d2, d3] }
  | _ => none }
def fnMultiplyRowsAndSignRow : OpenClaim := { program := "qxb6617596a", sum := "abe03d50ddf8138f0055a437ed49c5567e29d4e3431001bf95c59f386ef13074", func := "example.com/cairnway/cairnway/zzlaws_assign_b1.FnMultiplyRowsAndSign", spec := "fnMultiplyRowsAndSign", apart := false }
def FnMultiplyRowsAndSignSaid : Prop := fnMultiplyRowsAndSignRow.holds Try.pinned (OpenSpec.ofChange fnMultiplyRowsAndSignSpec)

/-- ITS FALSE NEIGHBOUR: 'it returns false'. Refute it at one input. -/
def fnMultiplyRowsAndSignWrong : ChangeSpec := { name := "fnMultiplyRowsAndSign", fn := fun _ => fun
  | [d1, d2, d3] => { results := [.lit (.bool false)], args := [d1, d2, d3] }
  | _ => none }
def FnMultiplyRowsAndSignWrongFalsely : Prop := fnMultiplyRowsAndSignRow.holds Try.pinned (OpenSpec.ofChange fnMultiplyRowsAndSignWrong)

end Rows
end Go.Proofs.Qxb6617596a
