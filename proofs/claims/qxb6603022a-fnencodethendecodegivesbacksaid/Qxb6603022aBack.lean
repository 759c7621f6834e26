/- The law FnEncodeThenDecodeGivesBack, walked. -/
import Derived.Test.Qxb6603022aDec
import Derived.Test.Qxb6603022aEncFacts
import Derived.Test.Qxb6603022aRowIn
import Derived.WalkSmall
namespace Go.Proofs.Qxb6603022a
open Go.RowKit Go.WideShapes Go.ChangeShapes Go.ChangeAt
open M58

theorem bytes10_yes (a : Option Addr) (len cap : Nat) (w : World) (h : len ≤ 1048576) :
    Calls Try.prog 10 #[.slice a len cap] w fun e w' => e = .returned (.bool true) ∧ w = w' := by
  have h1 : ¬ (1048576 : Int) < (len : Int) := by omega
  go_enter Try.func10, Try.ntmps10
  go_wp2
  go_ret
  exact ⟨rfl, rfl⟩
theorem bytes10_no (a : Option Addr) (len cap : Nat) (w : World) (h : 1048576 < len) :
    Calls Try.prog 10 #[.slice a len cap] w fun e w' => e = .returned (.bool false) ∧ w = w' := by
  have h1 : (1048576 : Int) < (len : Int) := by omega
  go_enter Try.func10, Try.ntmps10
  go_wp2
  go_ret
  exact ⟨rfl, rfl⟩

/-- zzDecode of the text of zs gives zs. -/
theorem decode_enc {zs out : List Int} (hd : Dig 256 zs) (hl : zs.length ≤ 4096) (hE : Enc zs out) (w : World) :
    Calls Try.prog 11 #[.string (strOfNums out)] w fun e w' => ∃ g : Nat, e = .returned (.tuple #[.slice (some ⟨g, 0, none⟩) zs.length zs.length, .bool true]) ∧
      w'.ownsRow w.heap.size 5 1 (.slice (some ⟨g, 0, none⟩) zs.length zs.length) zs.length (B8 zs) ∧ Below w.heap.size w w' := by
  obtain ⟨z, D, h1, h2, h3, h4, h5, h6, rfl, h8⟩ := enc_open hd hE
  refine (decode_any (strOfNums (text z D.reverse)) z D.reverse w (txt_nums (text_dig (Dig_reverse h4))) (by simp; omega) (Dig_reverse h4) (fun h => head_of_canon h5 (by simpa using h))).mono ?_
  rintro e w' ⟨g, A, rfl, hown, dA, cA, vA, hb⟩
  rw [List.reverse_reverse] at vA
  have e := dec_back hd h2 h3 h6 dA cA vA
  have el : z + A.length = zs.length := by have := congrArg List.length e; simpa using this
  rw [e, el] at hown
  exact ⟨g, by rw [el], hown, hb⟩
end Go.Proofs.Qxb6603022a
