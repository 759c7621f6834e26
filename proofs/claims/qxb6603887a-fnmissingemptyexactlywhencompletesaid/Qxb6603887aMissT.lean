/- zzCallMissing, walked; and the law. -/
import Derived.Test.Qxb6603887aMiss
import Derived.Deep.DeepCutAuto
namespace Go.Proofs.Qxb6603887a
open Go.RowKit Go.WideShapes Go.ChangeShapes Go.ChangeAt

theorem hide {p : Prop} (h : p) : Hid p := h
theorem unhide {p : Prop} (h : Hid p) : p := h

theorem bytes6_yes (a0 a3 a5 : Bool) (a1 a2 a4 a6 a7 : ByteArray) (hT : a1.size + a2.size + a4.size + a6.size + a7.size ≤ 1048576) (w : World) :
    Calls Try.prog 6 #[.bool a0, .string a1, .string a2, .bool a3, .string a4, .bool a5, .string a6, .string a7] w fun e w' => e = .returned (.bool true) ∧ w = w' := by
  refine (bytes6 a0 a3 a5 a1 a2 a4 a6 a7 (by unfold maxLen; omega) (by unfold maxLen; omega) (by unfold maxLen; omega) (by unfold maxLen; omega) (by unfold maxLen; omega) w).mono ?_
  rintro e w' ⟨rfl, rfl⟩
  exact ⟨ret_bool (decide_eq_true hT), rfl⟩
theorem bytes6_no (a0 a3 a5 : Bool) (a1 a2 a4 a6 a7 : ByteArray) (w1 : a1.size ≤ maxLen) (w2 : a2.size ≤ maxLen) (w4 : a4.size ≤ maxLen) (w6 : a6.size ≤ maxLen) (w7 : a7.size ≤ maxLen) (hT : ¬ a1.size + a2.size + a4.size + a6.size + a7.size ≤ 1048576) (w : World) :
    Calls Try.prog 6 #[.bool a0, .string a1, .string a2, .bool a3, .string a4, .bool a5, .string a6, .string a7] w fun e w' => e = .returned (.bool false) ∧ w = w' := by
  refine (bytes6 a0 a3 a5 a1 a2 a4 a6 a7 w1 w2 w4 w6 w7 w).mono ?_
  rintro e w' ⟨rfl, rfl⟩
  exact ⟨ret_bool (decide_eq_false hT), rfl⟩

/-- All is there, and nothing is empty. -/
def compl (a0 : Bool) (a1 a2 : ByteArray) (a3 : Bool) (a4 : ByteArray) (a5 : Bool) (a6 a7 : ByteArray) : Bool :=
  a0 && !a1.toList.isEmpty && !a2.toList.isEmpty && a3 && !a4.toList.isEmpty && a5 && !a6.toList.isEmpty && !a7.toList.isEmpty

set_option maxRecDepth 100000 in
set_option maxHeartbeats 4000000 in
theorem miss_any (a0 a3 a5 : Bool) (a1 a2 a4 a6 a7 : ByteArray) (w : World) :
    Calls Try.prog 8 #[.agg #[.bool a0, .string a1, .string a2, .bool a3, .string a4, .bool a5, .string a6, .string a7]] w fun e w' => ∃ s : ByteArray, e = .returned (.string s) ∧ s.toList.isEmpty = compl a0 a1 a2 a3 a4 a5 a6 a7 ∧ Grown w w' := by
  cases a0 <;> cases a3 <;> cases a5
  all_goals
    go_enter Try.func8, Try.ntmps8
    go_wp2
    all_goals go_ret
    all_goals refine ⟨_, rfl, ?_, ?_⟩
    all_goals first | (simp [compl, *]; done) | (repeat (first | exact Grown.refl _ | apply Grown.drew | apply Grown.alloc))
end Go.Proofs.Qxb6603887a
