/- Encode of the nil slice, walked. -/
import Derived.Test.Qxb6603022aEnc
namespace Go.Proofs.Qxb6603022a
open Go.RowKit Go.WideShapes Go.ChangeShapes Go.ChangeAt
open M58

theorem enc_nil : Enc [] [] := ⟨0, [], Nat.le_refl _, rfl, fun h => absurd h (by simp), Dig_nil _, canon_nil, rfl, rfl⟩

set_option maxRecDepth 100000 in
set_option maxHeartbeats 1000000 in
theorem encode_nil (w : World) :
    Calls Try.prog 8 #[.slice none 0 0] w fun e w' => ∃ out, e = .returned (.string (strOfNums out)) ∧ Enc [] out ∧ Below w.heap.size w w' := by
  obtain ⟨i0, hi, hz0, hz1, hz2⟩ := info_parts Try.info5
  go_enter Try.func8, Try.ntmps8
  go_wp2_with fail
  refine wp_loop_rounds 1 ?_
  rw [rounds_succ]
  go_wp2_with (at_make; refine wpList_make_own _ rfl _ _ 22 rfl w.heap.size 5 i0 (.int .u8 0) 1 Try.underlying22 hi hz0 hz1 _ _ _ 1 rfl rfl rfl ?c1 ?c2 ?c3 ?_)
  case c1 => rw [hz2]; omega
  case c2 => unfold maxLen; omega
  case c3 => exact Nat.le_refl _
  intro w1 hown hgrow
  have hbel : Below w.heap.size w w1 := (Below.refl _ _).grown hgrow (Nat.le_refl _) (by simp)
  clear hgrow
  go_wp2_with fail
  refine wp_loop_rounds 1 ?_
  rw [rounds_succ]
  go_wp2_with (at_make; refine wpList_make_full _ rfl _ _ 22 rfl w.heap.size 5 i0 (.int .u8 0) 1 Try.underlying22 hi hz0 hz1 _ _ _ _ 0 rfl rfl rfl rfl ?d1 ?d2 ?d3 ?_)
  case d1 => rw [hz2]; omega
  case d2 => unfold maxLen; omega
  case d3 => exact hbel.size
  intro w2 hown2 hgrow
  have hbe2 : Below w.heap.size w w2 := hbel.grown hgrow hbel.size (by simp)
  clear hgrow
  go_wp2_with fail
  refine wp_loop_rounds 1 ?_
  rw [rounds_succ]
  go_wp2_with fail
  refine wp_loop_rounds 1 ?_
  rw [rounds_succ]
  have hcv := run_convert_bytes_arg (P := Try.prog) w2 22 5 Try.underlying22 Try.underlying5 w1.heap.size 0 0 0 [] rfl (fun i hi => absurd hi (by omega)) 9 Try.underlying9
  go_wp2
  go_ret
  exact ⟨_, rfl, enc_nil, hbe2⟩
end Go.Proofs.Qxb6603022a
