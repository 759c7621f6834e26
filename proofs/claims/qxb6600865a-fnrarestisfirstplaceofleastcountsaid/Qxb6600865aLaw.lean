/- ZZrarest, zzb1SameElement and the law, walked. -/
import Derived.Test.Qxb6600865aRar
import Derived.LaidEqlPtr
namespace Go.Proofs.Qxb6600865a
open Go.RowKit Go.WideShapes Go.ChangeShapes Go.ChangeAt
open RM

theorem zzrarest (v sv : Value) (K : Nat) (V : Nat → Value) (Y : Nat → List Int) (xs : List Int) (w : World) (hN : Nd w v K V Y) (hS : Rd 0 w sv xs) (dS : Dig xs) (lS : xs.length ≤ 1048576) :
    Calls Try.prog 14 #[v, sv] w fun e w' => e = .returned (.tuple #[needleOf V (best (occ xs) (F Y K 0)), .int .i64 (atOf (best (occ xs) (F Y K 0)))]) ∧ Below w.heap.size w w' := by
  have R := hide (rarest_any v sv K V Y xs w hN hS dS lS)
  generalize needleOf V (best (occ xs) (F Y K 0)) = nv at *
  generalize atOf (best (occ xs) (F Y K 0)) = av at *
  clear hN hS dS lS
  go_enter Try.func14, Try.ntmps14
  go_wp2_with fail
  refine (unhide R).mono ?_
  rintro e w1 ⟨rfl, hb⟩
  go_wp2
  go_ret2
  exact ⟨rfl, hb⟩

theorem size5 : (Try.prog.info? 5).map (·.size) = some 1 := by kernel_rfl

set_option maxRecDepth 100000 in
set_option maxHeartbeats 1000000 in
theorem same_el (g n : Nat) (w : World) (hn : 0 < n) :
    Calls Try.prog 15 #[.slice (some ⟨g, 0, none⟩) n n, .slice (some ⟨g, 0, none⟩) n n] w fun e w' => e = .returned (.bool true) ∧ Below w.heap.size w w' := by
  have q23 : ∀ (w : World) (a : Option Addr) (n c n' c' : Nat), (binOp .eql 23 (.slice a n c) (.slice none n' c')).run Try.prog w = .ok (.bool a.isNone) w := fun w a n c n' c' => Lib.run_eql_slice_nil w _ _ a n c n' c' Try.underlying23
  obtain ⟨j, hj, _⟩ := Option.map_eq_some_iff.1 size5
  have hE : ∀ w : World, (binOp .eql 40 (.pointer (some ⟨g, 0, none⟩)) (.pointer (some ⟨g, 0, none⟩))).run Try.prog w = .ok (.bool true) w := fun w => run_eql_ptr_same w ⟨g, 0, none⟩ Try.underlying40 hj
  clear hj
  have h0 : (0 : Int) < (n : Int) := by omega
  have h1 : ((n : Int) == 0) = false := by rw [beq_eq_false_iff_ne]; omega
  go_enter Try.func15, Try.ntmps15
  go_wp2_with fail
  go_quiet (fail)
  go_wp2
  go_ret
  exact ⟨rfl, below_drewN (Below.refl _ _) _⟩
end Go.Proofs.Qxb6600865a
