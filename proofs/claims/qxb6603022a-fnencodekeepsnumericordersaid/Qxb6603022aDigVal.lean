/- zzDigitValue at the alphabet's characters, walked. -/
import Derived.Test.Qxb6603022aModelNil
import Derived.Deep.QuietTactic
import Derived.BigQuiet
namespace Go.Proofs.Qxb6603022a
open Go.RowKit Go.WideShapes Go.ChangeShapes Go.ChangeAt
open M58

theorem digitValue (x d : Int) (w : World) (h0 : 0 ≤ d) (h1 : d < 58) (hx : x = alpha d) :
    Calls Try.prog 16 #[.int .u8 x] w fun e w' => e = .returned (.tuple #[.int .i64 d, .bool true]) ∧ w = w' := by
  by_cases a1 : d < 9
  · have ha : d = x - 49 := by simp [alpha, a1] at hx; omega
    clear hx
    have b1 : 49 ≤ x := by omega
    have b2 : x ≤ 57 := by omega
    rw [ha]; clear ha h0 h1 a1
    go_enter Try.func16, Try.ntmps16
    go_wp2
    go_ret2
    exact ⟨rfl, rfl⟩
  by_cases a2 : d < 17
  · have ha : d = x - 65 + 9 := by simp [alpha, a1, a2] at hx; omega
    clear hx
    have b1 : 65 ≤ x := by omega
    have b2 : x ≤ 72 := by omega
    rw [ha]; clear ha h0 h1 a1 a2
    go_enter Try.func16, Try.ntmps16
    go_wp2
    go_ret2
    exact ⟨rfl, rfl⟩
  by_cases a3 : d < 22
  · have ha : d = x - 74 + 17 := by simp [alpha, a1, a2, a3] at hx; omega
    clear hx
    have b1 : 74 ≤ x := by omega
    have b2 : x ≤ 78 := by omega
    rw [ha]; clear ha h0 h1 a1 a2 a3
    go_enter Try.func16, Try.ntmps16
    go_wp2
    go_ret2
    exact ⟨rfl, rfl⟩
  by_cases a4 : d < 33
  · have ha : d = x - 80 + 22 := by simp [alpha, a1, a2, a3, a4] at hx; omega
    clear hx
    have b1 : 80 ≤ x := by omega
    have b2 : x ≤ 90 := by omega
    rw [ha]; clear ha h0 h1 a1 a2 a3 a4
    go_enter Try.func16, Try.ntmps16
    go_wp2
    go_ret2
    exact ⟨rfl, rfl⟩
  by_cases a5 : d < 44
  · have ha : d = x - 97 + 33 := by simp [alpha, a1, a2, a3, a4, a5] at hx; omega
    clear hx
    have b1 : 97 ≤ x := by omega
    have b2 : x ≤ 107 := by omega
    rw [ha]; clear ha h0 h1 a1 a2 a3 a4 a5
    go_enter Try.func16, Try.ntmps16
    go_wp2
    go_ret2
    exact ⟨rfl, rfl⟩
  · have ha : d = x - 109 + 44 := by simp [alpha, a1, a2, a3, a4, a5] at hx; omega
    clear hx
    have b1 : 109 ≤ x := by omega
    have b2 : x ≤ 122 := by omega
    rw [ha]; clear ha h0 h1 a1 a2 a3 a4 a5
    go_enter Try.func16, Try.ntmps16
    go_wp2
    go_ret2
    exact ⟨rfl, rfl⟩
end Go.Proofs.Qxb6603022a
