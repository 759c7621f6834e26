/-
  No cell of these rows narrows 'for every input' (looked for: loops, veiled, ifaces, maps, wideKeys, modest, calm, conditions, laid).
  DERIVED. THE GIVEN ROWS OF THIS SEAT. 1 by the template 'for every input the law returns true; each argument reads behind the call as it read before'; 0 by the template 'total and deterministic' (their statements: Qxb6603954aTotals.lean).
  GIVEN WITH THE SEED: the statements are not yours to turn. If you find one false, say at which input.
  Laid BY PROGRAM, IN A SANDBOX (cutbox-rows.mjs): the forced cells as the released guide's own fill.sh prints them over the translation 8952334186d67e18… (all of the seat's roots in one cut). By AI agents, Wed Nov 11 2026. No macro, syntax, notation, axiom, sorry.
-/
import Derived.Test.Qxb6603954aChecked
import GoSem.Claim
import GoSem.ClaimJoined
import GoSem.ClaimMapViews
import Derived.JoinedTies
import Derived.KernelRfl
namespace Go.Proofs.Qxb6603954a
/- THE CELL 'sum', in the pinned program and in every row, IS THE sha256 OF THE DUMP (.gsa) THAT Qxb6603954aProg.lean LOADS. Nothing in Lean hashes anything: it is a label: what it is worth is what the hold of that sum in a sandbox is worth. -/
noncomputable def Try.pinned : Pinned := { name := "qxb6603954a", sum := "8952334186d67e18c101ad9903d6391f44e5d54e7349121d6332a4c563e399b3", checked := Try.checked }
namespace Rows
def none {H : Type} : Left H := { results := [], args := [] }

/-- 'zzlaws_root_b1.FnOptionalFreshCells': WHATEVER THE INPUT: true; the input reads as it did. -/
def fnOptionalFreshCellsSpec : ChangeSpec := { name := "fnOptionalFreshCells", fn := fun _ => fun
  | [d] => { results := [.lit (.bool true)], args := [d] }
  | _ => none }
def fnOptionalFreshCellsRow : OpenClaim := { program := "qxb6603954a", sum := "8952334186d67e18c101ad9903d6391f44e5d54e7349121d6332a4c563e399b3", func := "example.com/pactum/pactum/zzlaws_root_b1.FnOptionalFreshCells", spec := "fnOptionalFreshCells", apart := false }
def FnOptionalFreshCellsSaid : Prop := fnOptionalFreshCellsRow.holds Try.pinned (OpenSpec.ofChange fnOptionalFreshCellsSpec)

/-- ITS FALSE NEIGHBOUR: 'it returns false'. Refute it at one input. -/
def fnOptionalFreshCellsWrong : ChangeSpec := { name := "fnOptionalFreshCells", fn := fun _ => fun
  | [d] => { results := [.lit (.bool false)], args := [d] }
  | _ => none }
def FnOptionalFreshCellsWrongFalsely : Prop := fnOptionalFreshCellsRow.holds Try.pinned (OpenSpec.ofChange fnOptionalFreshCellsWrong)

end Rows
end Go.Proofs.Qxb6603954a
