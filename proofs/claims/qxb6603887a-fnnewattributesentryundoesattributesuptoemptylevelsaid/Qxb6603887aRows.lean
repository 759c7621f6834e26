/-
  No cell of these rows narrows 'for every input' (looked for: loops, veiled, ifaces, maps, wideKeys, modest, calm, conditions, laid).
  DERIVED. THE GIVEN ROWS OF THIS SEAT. 3 by the template 'for every input the law returns true; each argument reads behind the call as it read before'; 0 by the template 'total and deterministic' (their statements: Qxb6603887aTotals.lean).
  GIVEN WITH THE SEED: the statements are not yours to turn. If you find one false, say at which input.
  Laid BY PROGRAM, IN A SANDBOX (cutbox-rows.mjs): the forced cells as the released guide's own fill.sh prints them over the translation 158ef02775bec230… (all of the seat's roots in one cut). By AI agents, Wed Nov 11 2026. No macro, syntax, notation, axiom, sorry.
-/
import Derived.Test.Qxb6603887aChecked
import GoSem.Claim
import GoSem.ClaimJoined
import GoSem.ClaimMapViews
import Derived.JoinedTies
import Derived.KernelRfl
namespace Go.Proofs.Qxb6603887a
/- THE CELL 'sum', in the pinned program and in every row, IS THE sha256 OF THE DUMP (.gsa) THAT Qxb6603887aProg.lean LOADS. Nothing in Lean hashes anything: it is a label: what it is worth is what the hold of that sum in a sandbox is worth. -/
noncomputable def Try.pinned : Pinned := { name := "qxb6603887a", sum := "158ef02775bec2303887202f75441a14ea5daf0557592d1fa9e3c97660dd5dc8", checked := Try.checked }
namespace Rows
def none {H : Type} : Left H := { results := [], args := [] }

/-- 'zzlaws_pkg_server_b1.FnMissingEmptyExactlyWhenComplete': WHATEVER THE INPUT: true; the input reads as it did. -/
def fnMissingEmptyExactlyWhenCompleteSpec : ChangeSpec := { name := "fnMissingEmptyExactlyWhenComplete", fn := fun _ => fun
  | [d1, d2, d3, d4, d5, d6, d7, d8] => { results := [.lit (.bool true)], args := [d1, d2, d3, d4, d5, d6, d7, d8] }
  | _ => none }
def fnMissingEmptyExactlyWhenCompleteRow : OpenClaim := { program := "qxb6603887a", sum := "158ef02775bec2303887202f75441a14ea5daf0557592d1fa9e3c97660dd5dc8", func := "example.com/tiergrant/tiergrant/zzlaws_pkg_server_b1.FnMissingEmptyExactlyWhenComplete", spec := "fnMissingEmptyExactlyWhenComplete", apart := false }
def FnMissingEmptyExactlyWhenCompleteSaid : Prop := fnMissingEmptyExactlyWhenCompleteRow.holds Try.pinned (OpenSpec.ofChange fnMissingEmptyExactlyWhenCompleteSpec)

/-- ITS FALSE NEIGHBOUR: 'it returns false'. Refute it at one input. -/
def fnMissingEmptyExactlyWhenCompleteWrong : ChangeSpec := { name := "fnMissingEmptyExactlyWhenComplete", fn := fun _ => fun
  | [d1, d2, d3, d4, d5, d6, d7, d8] => { results := [.lit (.bool false)], args := [d1, d2, d3, d4, d5, d6, d7, d8] }
  | _ => none }
def FnMissingEmptyExactlyWhenCompleteWrongFalsely : Prop := fnMissingEmptyExactlyWhenCompleteRow.holds Try.pinned (OpenSpec.ofChange fnMissingEmptyExactlyWhenCompleteWrong)

/-- 'zzlaws_pkg_server_b1.FnAttributesUndoesNewAttributesEntry': WHATEVER THE INPUT: true; the input reads as it did. -/
def fnAttributesUndoesNewAttributesEntrySpec : ChangeSpec := { name := "fnAttributesUndoesNewAttributesEntry", fn := fun _ => fun
  | [d1, d2, d3, d4, d5, d6] => { results := [.lit (.bool true)], args := [d1, d2, d3, d4, d5, d6] }
  | _ => none }
def fnAttributesUndoesNewAttributesEntryRow : OpenClaim := { program := "qxb6603887a", sum := "158ef02775bec2303887202f75441a14ea5daf0557592d1fa9e3c97660dd5dc8", func := "example.com/tiergrant/tiergrant/zzlaws_pkg_server_b1.FnAttributesUndoesNewAttributesEntry", spec := "fnAttributesUndoesNewAttributesEntry", apart := false }
def FnAttributesUndoesNewAttributesEntrySaid : Prop := fnAttributesUndoesNewAttributesEntryRow.holds Try.pinned (OpenSpec.ofChange fnAttributesUndoesNewAttributesEntrySpec)

/-- ITS FALSE NEIGHBOUR: 'it returns false'. Refute it at one input. -/
def fnAttributesUndoesNewAttributesEntryWrong : ChangeSpec := { name := "fnAttributesUndoesNewAttributesEntry", fn := fun _ => fun
  | [d1, d2, d3, d4, d5, d6] => { results := [.lit (.bool false)], args := [d1, d2, d3, d4, d5, d6] }
  | _ => none }
def FnAttributesUndoesNewAttributesEntryWrongFalsely : Prop := fnAttributesUndoesNewAttributesEntryRow.holds Try.pinned (OpenSpec.ofChange fnAttributesUndoesNewAttributesEntryWrong)

/-- 'zzlaws_pkg_server_b1.FnNewAttributesEntryUndoesAttributesUpToEmptyLevel': WHATEVER THE INPUT: true; the input reads as it did. -/
def fnNewAttributesEntryUndoesAttributesUpToEmptyLevelSpec : ChangeSpec := { name := "fnNewAttributesEntryUndoesAttributesUpToEmptyLevel", fn := fun _ => fun
  | [d1, d2, d3, d4, d5, d6, d7] => { results := [.lit (.bool true)], args := [d1, d2, d3, d4, d5, d6, d7] }
  | _ => none }
def fnNewAttributesEntryUndoesAttributesUpToEmptyLevelRow : OpenClaim := { program := "qxb6603887a", sum := "158ef02775bec2303887202f75441a14ea5daf0557592d1fa9e3c97660dd5dc8", func := "example.com/tiergrant/tiergrant/zzlaws_pkg_server_b1.FnNewAttributesEntryUndoesAttributesUpToEmptyLevel", spec := "fnNewAttributesEntryUndoesAttributesUpToEmptyLevel", apart := false }
def FnNewAttributesEntryUndoesAttributesUpToEmptyLevelSaid : Prop := fnNewAttributesEntryUndoesAttributesUpToEmptyLevelRow.holds Try.pinned (OpenSpec.ofChange fnNewAttributesEntryUndoesAttributesUpToEmptyLevelSpec)

/-- ITS FALSE NEIGHBOUR: 'it returns false'. Refute it at one input. -/
def fnNewAttributesEntryUndoesAttributesUpToEmptyLevelWrong : ChangeSpec := { name := "fnNewAttributesEntryUndoesAttributesUpToEmptyLevel", fn := fun _ => fun
  | [d1, d2, d3, d4, d5, d6, d7] => { results := [.lit (.bool false)], args := [d1, d2, d3, d4, d5, d6, d7] }
  | _ => none }
def FnNewAttributesEntryUndoesAttributesUpToEmptyLevelWrongFalsely : Prop := fnNewAttributesEntryUndoesAttributesUpToEmptyLevelRow.holds Try.pinned (OpenSpec.ofChange fnNewAttributesEntryUndoesAttributesUpToEmptyLevelWrong)

end Rows
end Go.Proofs.Qxb6603887a
