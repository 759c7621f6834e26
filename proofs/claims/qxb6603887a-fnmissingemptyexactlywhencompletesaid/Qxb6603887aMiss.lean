/- The guards of FnMissingEmptyExactlyWhenComplete, and the law, walked. -/
import Derived.Test.Qxb6603887aRows
import Derived.WalkKit
import Derived.ProofKit
import Derived.WalkSpells
namespace Go.Proofs.Qxb6603887a
open Go.RowKit Go.WideShapes Go.ChangeShapes Go.ChangeAt

theorem ret_bool {a b : Bool} (h : a = b) : Ending.returned (.bool a) = .returned (.bool b) := by rw [h]

set_option maxRecDepth 100000 in
set_option maxHeartbeats 1000000 in
theorem bytes6 (a0 a3 a5 : Bool) (a1 a2 a4 a6 a7 : ByteArray) (w1 : a1.size ≤ maxLen) (w2 : a2.size ≤ maxLen) (w4 : a4.size ≤ maxLen) (w6 : a6.size ≤ maxLen) (w7 : a7.size ≤ maxLen) (w : World) :
    Calls Try.prog 6 #[.bool a0, .string a1, .string a2, .bool a3, .string a4, .bool a5, .string a6, .string a7] w fun e w' =>
      e = .returned (.bool (decide (a1.size + a2.size + a4.size + a6.size + a7.size ≤ 1048576))) ∧ w = w' := by
  unfold maxLen at w1 w2 w4 w6 w7
  go_enter Try.func6, Try.ntmps6
  go_wp2
  all_goals go_ret
  all_goals refine ⟨ret_bool ?_, rfl⟩
  all_goals first | (refine (decide_eq_false ?_).symm; omega) | (refine (decide_eq_true ?_).symm; omega)

set_option maxRecDepth 100000 in
set_option maxHeartbeats 1000000 in
theorem tooBig7 (a1 a2 a4 a6 a7 : ByteArray) (h : a1.size + a2.size + a4.size + a6.size + a7.size ≤ 1048576) (w : World) :
    Calls Try.prog 7 #[.string a1, .string a2, .string a4, .string a6, .string a7] w fun e w' => e = .returned (.bool false) ∧ w = w' := by
  have h1 : ¬ (1048576 : Int) < (a1.size : Int) := by omega
  have h2 : ¬ (1048576 : Int) < (a2.size : Int) := by omega
  have h4 : ¬ (1048576 : Int) < (a4.size : Int) := by omega
  have h6 : ¬ (1048576 : Int) < (a6.size : Int) := by omega
  have h7 : ¬ (1048576 : Int) < (a7.size : Int) := by omega
  have h8 : ¬ (1048576 : Int) < (a1.size : Int) + (a2.size : Int) + (a4.size : Int) + (a6.size : Int) + (a7.size : Int) := by omega
  go_enter Try.func7, Try.ntmps7
  go_wp2
  go_ret
  exact ⟨rfl, rfl⟩
end Go.Proofs.Qxb6603887a
