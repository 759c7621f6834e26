/- The closed facts of the row, one theorem each (in one declaration they outgrow the memory lid). -/
import Derived.Test.Qxb6600865aRows
import Derived.WalkKit
import Derived.ProofKit
namespace Go.Proofs.Qxb6600865a.Facts
open Go.ChangeShapes Go.WideShapes Go.ChangeAt Go.RowKit

theorem and_t {a b : Bool} (ha : a = true) (hb : b = true) : (a && b) = true := by rw [ha, hb]; rfl

/- The head's words: 'String.toList' of a long text is dear to the kernel; its list of signs is not. -/
theorem strip_cut (rest : List (List Char)) : stripLifts liftWords ("cut".toList :: rest) = ([], "cut".toList :: rest) := by kernel_rfl
theorem make_of {P : Program} {rest : List (List Char)} (h : behindMainWord (wordsSigns P.initOrder.toList) = "cut".toList :: rest) : P.make = some .cut := by
  unfold Program.make
  rw [h]
  rfl
theorem enter_of {P : Program} {rest : List (List Char)} (h : behindMainWord (wordsSigns P.initOrder.toList) = "cut".toList :: rest) (h1 : P.laysLater = false) (h2 : P.bearsReflect = false) (h3 : P.doorFits [] = true) : P.mayEnter = true := by
  unfold Program.mayEnter
  rw [h]
  simp only [strip_cut, h1, h2, h3]
  rfl
theorem lifts_of {P : Program} {rest : List (List Char)} (h : behindMainWord (wordsSigns P.initOrder.toList) = "cut".toList :: rest) : P.liftsFinal = false := by
  unfold Program.liftsFinal Program.headLifts
  rw [h]
  simp only [strip_cut]
  rfl
set_option maxRecDepth 100000 in
theorem init_list : ∃ l, Try.pinned.checked.prog.initOrder = String.ofList l ∧ behindMainWord (wordsSigns l) = "cut".toList :: (behindMainWord (wordsSigns l)).tail := ⟨_, rfl, by kernel_rfl⟩
theorem head_cut : ∃ rest, behindMainWord (wordsSigns Try.pinned.checked.prog.initOrder.toList) = "cut".toList :: rest := by
  obtain ⟨l, h1, h2⟩ := init_list
  rw [h1, String.toList_ofList]
  exact ⟨_, h2⟩
theorem e1 : Try.pinned.checked.prog.laysLater = false := by kernel_rfl
theorem e2 : Try.pinned.checked.prog.bearsReflect = false := by kernel_rfl
theorem e3 : Try.pinned.checked.prog.doorFits [] = true := by kernel_rfl

theorem k1 : (Rows.fnRarestIsFirstPlaceOfLeastCountRow.wf (OpenSpec.ofChange Rows.fnRarestIsFirstPlaceOfLeastCountSpec)) = true := by kernel_rfl
theorem k2 : (laidOutB Try.pinned.checked.prog) = true := by kernel_rfl
theorem k3 : (mapsRowed Try.pinned.checked.prog) = true := by kernel_rfl
theorem k4 : (Try.f3.params.all (Try.pinned.checked.prog.readableRec ·)) = true := by kernel_rfl
theorem k5 : (namedTie Try.pinned.checked.prog Rows.fnRarestIsFirstPlaceOfLeastCountRow.named Rows.fnRarestIsFirstPlaceOfLeastCountSpec.vars) = true := by kernel_rfl
theorem k6 : ((Rows.fnRarestIsFirstPlaceOfLeastCountRow.stops == [])) = true := by kernel_rfl
theorem k7 : ((Try.pinned.checked.prog.stops == [])) = true := by kernel_rfl
theorem k8 : ((Rows.fnRarestIsFirstPlaceOfLeastCountRow.knobs == [])) = true := by kernel_rfl
theorem k9 : ((Try.pinned.checked.prog.stopKnobs == [])) = true := by kernel_rfl
theorem k10 : ((Rows.fnRarestIsFirstPlaceOfLeastCountRow.inPlace == Try.pinned.checked.prog.inPlace 3)) = true := by kernel_rfl
theorem k11 : ((Rows.fnRarestIsFirstPlaceOfLeastCountRow.unfollowed == Try.pinned.checked.prog.unfollowed 3)) = true := by kernel_rfl
theorem k12 : ((Rows.fnRarestIsFirstPlaceOfLeastCountRow.recurses == Try.pinned.checked.prog.recurses 3)) = true := by kernel_rfl
theorem k13 : ((Rows.fnRarestIsFirstPlaceOfLeastCountRow.named == Try.pinned.checked.prog.varsNamed 3)) = true := by kernel_rfl
theorem k14 : ((Rows.fnRarestIsFirstPlaceOfLeastCountRow.maps == (Try.f3.params.toList ++ Rows.fnRarestIsFirstPlaceOfLeastCountSpec.plain.varTypes Try.pinned.checked.prog).any (Try.pinned.checked.prog.mapsRec ·))) = true := by kernel_rfl
theorem k15 : ((Rows.fnRarestIsFirstPlaceOfLeastCountRow.ifaces == (Try.f3.params.toList ++ Rows.fnRarestIsFirstPlaceOfLeastCountSpec.plain.varTypes Try.pinned.checked.prog).any (Try.pinned.checked.prog.ifacesRec ·))) = true := by kernel_rfl
theorem k16 : ((Rows.fnRarestIsFirstPlaceOfLeastCountRow.mapsOut == Try.pinned.checked.prog.mapsAmong Try.f3.resultTypes.toList)) = true := by kernel_rfl
theorem k17 : ((Rows.fnRarestIsFirstPlaceOfLeastCountRow.loops == (Try.f3.params.toList ++ Rows.fnRarestIsFirstPlaceOfLeastCountSpec.plain.varTypes Try.pinned.checked.prog).any (Try.pinned.checked.prog.loopsFrom ·))) = true := by kernel_rfl
theorem k18 : ((Rows.fnRarestIsFirstPlaceOfLeastCountRow.wideKeys == (Try.f3.params.toList ++ Rows.fnRarestIsFirstPlaceOfLeastCountSpec.plain.varTypes Try.pinned.checked.prog ++ Try.f3.resultTypes.toList).any (Try.pinned.checked.prog.wideKeysFrom ·))) = true := by kernel_rfl
theorem k19 : (Rows.fnRarestIsFirstPlaceOfLeastCountSpec.vars.all (Try.pinned.checked.prog.varReadable ·)) = true := by kernel_rfl
theorem k20 : (Try.f3.resultTypes.all (fun t => Try.pinned.checked.prog.readableRec t && decide (t < Try.pinned.checked.prog.types.size))) = true := by kernel_rfl
theorem k21 : ((Rows.fnRarestIsFirstPlaceOfLeastCountRow.ifacesOut == Try.f3.resultTypes.toList.any (Try.pinned.checked.prog.ifacesRec ·))) = true := by kernel_rfl
theorem k22 : ((Rows.fnRarestIsFirstPlaceOfLeastCountRow.loopsOut == Try.f3.resultTypes.toList.any (Try.pinned.checked.prog.loopsFrom ·))) = true := by kernel_rfl
theorem k23 : ((Rows.fnRarestIsFirstPlaceOfLeastCountRow.plainKeys == Try.pinned.checked.prog.plainKeys)) = true := by kernel_rfl
theorem k24 : (Rows.fnRarestIsFirstPlaceOfLeastCountRow.shortTexts.isNone) = true := by kernel_rfl
theorem k25 : (Try.pinned.checked.prog.stopsHeard) = true := by kernel_rfl
theorem k26 : (Try.pinned.checked.prog.mayEnter) = true := by
  obtain ⟨rest, h⟩ := head_cut
  exact enter_of h e1 e2 e3
theorem k27 : ((Rows.fnRarestIsFirstPlaceOfLeastCountRow.lifted == Try.pinned.checked.prog.liftsFinal)) = true := by
  obtain ⟨rest, h⟩ := head_cut
  rw [lifts_of h]
  kernel_rfl
theorem k28 : ((Try.pinned.checked.prog.make == some Rows.fnRarestIsFirstPlaceOfLeastCountRow.make)) = true := by
  obtain ⟨rest, h⟩ := head_cut
  rw [make_of h]
  kernel_rfl
theorem k29 : ((Rows.fnRarestIsFirstPlaceOfLeastCountRow.kinds == (if Rows.fnRarestIsFirstPlaceOfLeastCountRow.domain.isEmpty then [] else Try.f3.params.toList.map fun t => match Try.pinned.checked.prog.underlying t with | some (.int k) => some k | _ => none))) = true := by kernel_rfl
theorem k30 : ((Rows.fnRarestIsFirstPlaceOfLeastCountRow.pinned == Rows.fnRarestIsFirstPlaceOfLeastCountRow.pinnedBy)) = true := by kernel_rfl
theorem k31 : ((Rows.fnRarestIsFirstPlaceOfLeastCountRow.veiled == (Try.f3.params.toList ++ Rows.fnRarestIsFirstPlaceOfLeastCountSpec.plain.varTypes Try.pinned.checked.prog ++ Try.f3.resultTypes.toList).any (Try.pinned.checked.prog.veiledRec ·))) = true := by kernel_rfl
theorem k32 : (Rows.fnRarestIsFirstPlaceOfLeastCountRow.veiledFits Try.pinned.checked.prog Try.f3.params.toList (Try.f3.params.toList ++ Rows.fnRarestIsFirstPlaceOfLeastCountSpec.plain.varTypes Try.pinned.checked.prog ++ Try.f3.resultTypes.toList)) = true := by kernel_rfl

theorem closed : joinedFacts Try.pinned.checked.prog 3 Try.f3 Rows.fnRarestIsFirstPlaceOfLeastCountSpec Rows.fnRarestIsFirstPlaceOfLeastCountRow = true := by
  unfold joinedFacts
  exact (and_t (and_t (and_t (and_t (and_t (and_t (and_t (and_t (and_t (and_t (and_t (and_t (and_t (and_t (and_t (and_t (and_t (and_t (and_t (and_t (and_t (and_t (and_t (and_t (and_t (and_t (and_t (and_t (and_t (and_t (and_t k1 k2) k3) k4) k5) k6) k7) k8) k9) k10) k11) k12) k13) k14) k15) k16) k17) k18) k19) k20) k21) k22) k23) k24) k25) k26) k27) k28) k29) k30) k31) k32)
end Go.Proofs.Qxb6600865a.Facts
