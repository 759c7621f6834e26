/-
  No cell of these rows narrows 'for every input' (looked for: loops, veiled, ifaces, maps, wideKeys, modest, calm, conditions, laid).
  DERIVED. THE GIVEN ROWS OF THIS SEAT. 3 by the template 'for every input the law returns true; each argument reads behind the call as it read before'; 0 by the template 'total and deterministic' (their statements: Qxb6603022aTotals.lean).
  GIVEN WITH THE SEED: the statements are not yours to turn. If you find one false, say at which input.
  Laid BY PROGRAM, IN A SANDBOX (cutbox-rows.mjs): the forced cells as the released guide's own fill.sh prints them over the translation 8d8556ac1b2f0b13… (all of the seat's roots in one cut). By AI agents, Wed Nov 11 2026. No macro, syntax, notation, axiom, sorry.
-/
import Derived.Test.Qxb6603022aChecked
import GoSem.Claim
import GoSem.ClaimJoined
import GoSem.ClaimMapViews
import Derived.JoinedTies
import Derived.KernelRfl
namespace Go.Proofs.Qxb6603022a
/- THE CELL 'sum', in the pinned program and in every row, IS THE sha256 OF THE DUMP (.gsa) THAT Qxb6603022aProg.lean LOADS. Nothing in Lean hashes anything: it is a label: what it is worth is what the hold of that sum in a sandbox is worth. -/
noncomputable def Try.pinned : Pinned := { name := "qxb6603022a", sum := "8d8556ac1b2f0b130f2364d6eb6859d9ccd60f6cf003799f1bde5a196f2a4f53", checked := Try.checked }
namespace Rows
def none {H : Type} : Left H := { results := [], args := [] }

/-- 'zzlaws_base58_b1.FnEncodeMatchesLongDivisionModel': WHATEVER THE INPUT: true; the input reads as it did. -/
def fnEncodeMatchesLongDivisionModelSpec : ChangeSpec := { name := "fnEncodeMatchesLongDivisionModel", fn := fun _ => fun
  | [d] => { results := [.lit (.bool true)], args := [d] }
  | _ => none }
def fnEncodeMatchesLongDivisionModelRow : OpenClaim := { program := "qxb6603022a", sum := "8d8556ac1b2f0b130f2364d6eb6859d9ccd60f6cf003799f1bde5a196f2a4f53", func := "example.com/rimecask/rimecask/zzlaws_base58_b1.FnEncodeMatchesLongDivisionModel", spec := "fnEncodeMatchesLongDivisionModel", apart := false }
def FnEncodeMatchesLongDivisionModelSaid : Prop := fnEncodeMatchesLongDivisionModelRow.holds Try.pinned (OpenSpec.ofChange fnEncodeMatchesLongDivisionModelSpec)

/-- ITS FALSE NEIGHBOUR: 'it returns false'. Refute it at one input. -/
def fnEncodeMatchesLongDivisionModelWrong : ChangeSpec := { name := "fnEncodeMatchesLongDivisionModel", fn := fun _ => fun
  | [d] => { results := [.lit (.bool false)], args := [d] }
  | _ => none }
def FnEncodeMatchesLongDivisionModelWrongFalsely : Prop := fnEncodeMatchesLongDivisionModelRow.holds Try.pinned (OpenSpec.ofChange fnEncodeMatchesLongDivisionModelWrong)

/-- 'zzlaws_base58_b1.FnEncodeThenDecodeGivesBack': WHATEVER THE INPUT: true; the input reads as it did. -/
def fnEncodeThenDecodeGivesBackSpec : ChangeSpec := { name := "fnEncodeThenDecodeGivesBack", fn := fun _ => fun
  | [d] => { results := [.lit (.bool true)], args := [d] }
  | _ => none }
def fnEncodeThenDecodeGivesBackRow : OpenClaim := { program := "qxb6603022a", sum := "8d8556ac1b2f0b130f2364d6eb6859d9ccd60f6cf003799f1bde5a196f2a4f53", func := "example.com/rimecask/rimecask/zzlaws_base58_b1.FnEncodeThenDecodeGivesBack", spec := "fnEncodeThenDecodeGivesBack", apart := false }
def FnEncodeThenDecodeGivesBackSaid : Prop := fnEncodeThenDecodeGivesBackRow.holds Try.pinned (OpenSpec.ofChange fnEncodeThenDecodeGivesBackSpec)

/-- ITS FALSE NEIGHBOUR: 'it returns false'. Refute it at one input. -/
def fnEncodeThenDecodeGivesBackWrong : ChangeSpec := { name := "fnEncodeThenDecodeGivesBack", fn := fun _ => fun
  | [d] => { results := [.lit (.bool false)], args := [d] }
  | _ => none }
def FnEncodeThenDecodeGivesBackWrongFalsely : Prop := fnEncodeThenDecodeGivesBackRow.holds Try.pinned (OpenSpec.ofChange fnEncodeThenDecodeGivesBackWrong)

/-- 'zzlaws_base58_b1.FnEncodeKeepsNumericOrder': WHATEVER THE INPUT: true; the input reads as it did. -/
def fnEncodeKeepsNumericOrderSpec : ChangeSpec := { name := "fnEncodeKeepsNumericOrder", fn := fun _ => fun
  | [d1, d2] => { results := [.lit (.bool true)], args := [d1, d2] }
  | _ => none }
def fnEncodeKeepsNumericOrderRow : OpenClaim := { program := "qxb6603022a", sum := "8d8556ac1b2f0b130f2364d6eb6859d9ccd60f6cf003799f1bde5a196f2a4f53", func := "example.com/rimecask/rimecask/zzlaws_base58_b1.FnEncodeKeepsNumericOrder", spec := "fnEncodeKeepsNumericOrder", apart := false }
def FnEncodeKeepsNumericOrderSaid : Prop := fnEncodeKeepsNumericOrderRow.holds Try.pinned (OpenSpec.ofChange fnEncodeKeepsNumericOrderSpec)

/-- ITS FALSE NEIGHBOUR: 'it returns false'. Refute it at one input. -/
def fnEncodeKeepsNumericOrderWrong : ChangeSpec := { name := "fnEncodeKeepsNumericOrder", fn := fun _ => fun
  | [d1, d2] => { results := [.lit (.bool false)], args := [d1, d2] }
  | _ => none }
def FnEncodeKeepsNumericOrderWrongFalsely : Prop := fnEncodeKeepsNumericOrderRow.holds Try.pinned (OpenSpec.ofChange fnEncodeKeepsNumericOrderWrong)

end Rows
end Go.Proofs.Qxb6603022a
