/- The closed facts of the row: the three that read the head's words apart (all in one declaration outgrow the memory lid). -/
import Derived.Test.Qxb6600865aRows
import Derived.WalkKit
import Derived.ProofKit
namespace Go.Proofs.Qxb6600865a.Facts
open Go.ChangeShapes Go.WideShapes Go.ChangeAt Go.RowKit

theorem and_t {a b : Bool} (ha : a = true) (hb : b = true) : (a && b) = true := by rw [ha, hb]; rfl

/- The head's words: 'String.toList' of a long text is dear to the kernel; its list of signs is not. -/
theorem strip_cut (rest : List (List Char)) : stripLifts liftWords ("cut".toList :: rest) = ([], "cut".toList :: rest) := by kernel_rfl
theorem make_of {P : Program} {rest : List (List Char)} (h : behindMainWord (wordsSigns P.initOrder.toList) = "cut".toList :: rest) : P.make = some .cut := by
  unfold Program.make
  rw [h]
  rfl
theorem enter_of {P : Program} {rest : List (List Char)} (h : behindMainWord (wordsSigns P.initOrder.toList) = "cut".toList :: rest) (h1 : P.laysLater = false) (h2 : P.bearsReflect = false) (h3 : P.doorFits [] = true) : P.mayEnter = true := by
  unfold Program.mayEnter
  rw [h]
  simp only [strip_cut, h1, h2, h3]
  rfl
theorem lifts_of {P : Program} {rest : List (List Char)} (h : behindMainWord (wordsSigns P.initOrder.toList) = "cut".toList :: rest) : P.liftsFinal = false := by
  unfold Program.liftsFinal Program.headLifts
  rw [h]
  simp only [strip_cut]
  rfl
set_option maxRecDepth 100000 in
theorem init_list : ∃ l, Try.pinned.checked.prog.initOrder = String.ofList l ∧ behindMainWord (wordsSigns l) = "cut".toList :: (behindMainWord (wordsSigns l)).tail := ⟨_, rfl, by kernel_rfl⟩
theorem head_cut : ∃ rest, behindMainWord (wordsSigns Try.pinned.checked.prog.initOrder.toList) = "cut".toList :: rest := by
  obtain ⟨l, h1, h2⟩ := init_list
  rw [h1, String.toList_ofList]
  exact ⟨_, h2⟩
theorem e1 : Try.pinned.checked.prog.laysLater = false := by kernel_rfl
theorem e2 : Try.pinned.checked.prog.bearsReflect = false := by kernel_rfl
theorem e3 : Try.pinned.checked.prog.doorFits [] = true := by kernel_rfl

theorem may_enter : Try.pinned.checked.prog.mayEnter = true := by
  obtain ⟨rest, h⟩ := head_cut
  exact enter_of h e1 e2 e3
theorem lifted_fits : (Rows.fnRarestIsFirstPlaceOfLeastCountRow.lifted == Try.pinned.checked.prog.liftsFinal) = true := by
  obtain ⟨rest, h⟩ := head_cut
  rw [lifts_of h]
  kernel_rfl
theorem make_fits : (Try.pinned.checked.prog.make == some Rows.fnRarestIsFirstPlaceOfLeastCountRow.make) = true := by
  obtain ⟨rest, h⟩ := head_cut
  rw [make_of h]
  kernel_rfl

theorem closed : joinedFacts Try.pinned.checked.prog 3 Try.f3 Rows.fnRarestIsFirstPlaceOfLeastCountSpec Rows.fnRarestIsFirstPlaceOfLeastCountRow = true := by
  unfold joinedFacts
  refine and_t (and_t (and_t (and_t (and_t (and_t (and_t ?_ may_enter) lifted_fits) make_fits) ?_) ?_) ?_) ?_
  all_goals kernel_rfl
end Go.Proofs.Qxb6600865a.Facts
