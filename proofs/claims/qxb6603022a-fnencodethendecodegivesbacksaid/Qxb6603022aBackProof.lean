/- The statement, out of the contracts; the frame is the shell's, made by program for this function. -/
import Derived.Test.Qxb6603022aRows
import Derived.WalkKit
import Derived.ProofKit
import Derived.OpenShut
import Derived.ShutString
import Derived.ChangeOld
import Derived.Below
import Derived.Test.Qxb6603022aBack
import Derived.Test.Qxb6603022aRd
namespace Go.Proofs.Qxb6603022a.fnEncodeThenDecodeGivesBack
open Go.ChangeShapes Go.WideShapes Go.ChangeAt Go.RowKit
open Go.ChangeMaps (open_string shut_string)
open M58
set_option linter.unusedVariables false

theorem own : ownKnob Try.prog.godebug = none := by kernel_rfl
theorem laidOut : laidOutB Try.prog = true := by kernel_rfl

set_option maxRecDepth 100000 in
set_option maxHeartbeats 1000000 in
theorem walk (a0 : Option Addr) (len0 cap0 : Nat) (z0 : List Int) (w : World) (w0 : IsRow .u8 w a0 len0 cap0 z0) :
    Calls Try.prog 4 #[.slice a0 len0 cap0] w fun e w' => e = .returned (.bool true) ∧ Below w.heap.size w w' := by
  obtain ⟨hlen, hmax⟩ := len_any w0
  have hdig := dig_any w0
  unfold maxLen at hmax
  by_cases hbig : 1048576 < len0
  · go_enter Try.func4, Try.ntmps4
    go_wp2_with (go_at_call 10; refine (bytes10_no _ _ _ _ hbig).mono ?_; rintro e w' ⟨rfl, rfl⟩)
    go_ret
    exact ⟨rfl, Below.refl _ _⟩
  by_cases hmid : 4096 < len0
  · have hm2 : (4096 : Int) < (len0 : Int) := by omega
    go_enter Try.func4, Try.ntmps4
    go_wp2_with (go_at_call 10; refine (bytes10_yes _ _ _ _ (by omega)).mono ?_; rintro e w' ⟨rfl, rfl⟩)
    go_ret
    exact ⟨rfl, Below.refl _ _⟩
  have hm2 : ¬ (4096 : Int) < (len0 : Int) := by omega
  have hcl := clone_any w0 (by omega)
  have Hcl := hide hcl
  clear hcl
  generalize hz : z0.take len0 = zs at *
  have hz4 : zs.length ≤ 4096 := by omega
  clear hlen hz w0
  go_enter Try.func4, Try.ntmps4
  go_wp2_with (go_at_call 10; refine (bytes10_yes _ _ _ _ (by omega)).mono ?_; rintro e w' ⟨rfl, rfl⟩)
  refine (unhide Hcl).mono ?_
  rintro e w1 ⟨v, rfl, hv⟩
  clear Hcl
  obtain ⟨hrd, hbel⟩ := hv.rd
  clear hv
  have Hrd := hide hrd
  clear hrd
  go_wp2_with fail
  refine (encode_rd (unhide Hrd) hz4 hdig).mono ?_
  rintro e w2 ⟨out, rfl, hE, hb1⟩
  go_wp2_with fail
  refine (decode_enc hdig hz4 hE _).mono ?_
  rintro e w3 ⟨g2, rfl, hown, hb2⟩
  have hrd3 := ((unhide Hrd).later hb1).later hb2
  have hbe : Below w.heap.size w w3 := hbel.trans ((hb1.mono hbel.size).trans (hb2.mono (Nat.le_trans hbel.size hb1.size)))
  clear Hrd hb1 hb2 hbel
  rcases hrd3 with ⟨rfl, rfl⟩ | ⟨g1, rfl, hg1, hc1⟩
  · go_wp2_with fail
    refine wp_loop_rounds 1 ?_
    rw [rounds_succ]
    go_wp2
    go_ret
    exact ⟨rfl, hbe⟩
  · have Hc1 := hide hc1
    clear hc1
    go_wp2_with fail
    go_loopw [6] (fun i wr => ∃ k : Nat, k ≤ zs.length ∧ i = .int .i64 k ∧ Below w3.heap.size w3 wr) (fun i _ => zs.length - (intOf i).toNat)
    case atStart => exact ⟨0, Nat.zero_le _, rfl, Below.refl _ _⟩
    case round =>
      obtain ⟨k, hk, rfl, hb4⟩ := hrel
      by_cases hlt : k < zs.length
      · obtain ⟨x, hx⟩ : ∃ x, x = zs.getD k 0 := ⟨_, rfl⟩
        have hce1 : wr.cell? ⟨g1, k, none⟩ = some (.int .u8 x) := by rw [hx]; exact (hb4.cell (by exact hg1)).trans (unhide Hc1 k hlt)
        have hg2 := (hown.lt g2 rfl).2
        have hce2 : wr.cell? ⟨g2, k, none⟩ = some (.int .u8 x) := by rw [hx]; exact (hb4.cell (by exact hg2)).trans (own_cell hown rfl k hlt)
        clear hx
        have hki : (k : Int) < (zs.length : Int) := by omega
        go_wp2_with fail
        go_quiet (fail)
        go_wp2
        go_roundw
        case rel => exact ⟨k + 1, by omega, by go_num, below_drewN hb4 _⟩
        case measure => simp [intOf]; omega
      · go_wp2
        go_ret
        exact ⟨rfl, hbe.trans (hb4.mono hbe.size)⟩

set_option maxRecDepth 100000 in
theorem lifted (os : Os) (started : os.Started) (H : Type) (enc : TypeId × Value → H) :
    ReturnsInHanded {} Try.checked os 4 .any (Rows.fnEncodeThenDecodeGivesBackSpec.pre6 enc Try.prog Try.f4 Rows.fnEncodeThenDecodeGivesBackRow.domain false) (Rows.fnEncodeThenDecodeGivesBackSpec.post enc Try.prog Try.f4 false true false false) := by
  refine returnsInHanded_of_change (C := Try.checked) own started (by kernel_rfl) Try.func4
    (ChangeSpec.witness6 (enc := enc) (C := Try.checked) false ⟨#[], #[.slice none 0 0], []⟩ 8 (by kernel_rfl) (by kernel_rfl) (by kernel_rfl) (by kernel_rfl)) ?_
  intro W base args ds gs before hval0 hW hcnd _
  have hval : ∀ (j : Nat) t v, Try.f4.params[j]? = some t → args[j]? = some v → Value.okWide Try.prog W .any base t v := hval0
  have hW' := hW
  obtain ⟨p, q, hA0, hV, rfl, hfz, hnd⟩ := hW
  have hA : DataW.TrodAll enc Try.prog W 0 (fun _ => true) true Try.f4.params.toList args.toList ds p := hA0
  rw [Try.params4] at hA hval
  obtain ⟨v0, vs0, d0, ds0, p0, q0, hargs, rfl, rfl, h0, r0⟩ := trodAll_cons hA
  obtain ⟨rfl, rfl, rfl⟩ := trodAll_nil r0
  obtain rfl : args = #[v0] := by cases args; simp_all
  obtain ⟨rfl, rfl⟩ := trodVars_none hV
  obtain ⟨a0, len0, cap0, rfl⟩ := okWide_slice Try.underlying22 (hval 0 22 v0 rfl rfl)
  have k0 := h0
  have lt0 : ∀ x ∈ p0, x.block < W.heap.size := by obtain ⟨m, hm⟩ := k0; exact DataW.trod_lt m _ _ _ hm
  obtain ⟨z0, w0⟩ : ∃ zs, IsRow .u8 W a0 len0 cap0 zs := by
    obtain ⟨fuel, hf⟩ := h0
    rcases open_ints Try.underlying22 Try.underlying5 (by kernel_rfl) hf with ⟨hcs, _⟩ | ⟨x, l, c, zs, hcs, _, hl, hm, hz, _, hcell, hwz⟩
    · simp [Value.cells] at hcs
      obtain ⟨rfl, rfl, rfl⟩ := hcs
      exact ⟨[], .inl ⟨rfl, rfl, rfl, rfl⟩⟩
    · simp [Value.cells] at hcs
      obtain ⟨rfl, rfl, rfl⟩ := hcs
      exact ⟨zs, .inr ⟨_, rfl, hl, hm, by simpa using hz, hcell, hwz⟩⟩
  clear hA0 hval0
  refine (walk a0 len0 cap0 z0 W w0).mono fun e W' ⟨he, bel⟩ => ?_
  subst he
  exact ⟨_, rfl, _, _, _, [], _, [], hW', trodAll_mk1 (shut_bool Try.underlying4 _), (trodAll_cons_mk (Below.trod laidOut (by kernel_rfl) (of_decide_eq_true (by kernel_rfl)) k0 bel lt0) trodAll_mk0), rfl, bel.frame _, fun h => by cases h⟩

theorem over : Rows.fnEncodeThenDecodeGivesBackRow.holds Try.pinned (OpenSpec.ofChange Rows.fnEncodeThenDecodeGivesBackSpec) :=
  OpenClaim.holds_of_wide 4 Try.f4 rfl rfl rfl rfl rfl rfl rfl ⟨rfl, rfl, rfl, rfl, rfl⟩ rfl rfl rfl rfl rfl (by kernel_rfl) Try.func4 (by kernel_rfl)
    (of_decide_eq_true (by kernel_rfl)) (by unfold Func.isWrapper; first | (rw [if_pos (by decide +kernel)]; kernel_rfl) | (rw [if_neg (by decide +kernel)]; exact ⟨rfl, rfl⟩))
    (fun os started H enc _ => lifted os started H enc)

theorem proved : Rows.FnEncodeThenDecodeGivesBackSaid := over
end Go.Proofs.Qxb6603022a.fnEncodeThenDecodeGivesBack
