/- The statement, out of the contracts; the frame is the shell's, made by program for this function. -/
import Derived.Test.Qxb6603022aRows
import Derived.WalkKit
import Derived.ProofKit
import Derived.OpenShut
import Derived.ShutString
import Derived.ChangeOld
import Derived.Below
import Derived.Test.Qxb6603022aOrd
namespace Go.Proofs.Qxb6603022a.fnEncodeKeepsNumericOrder
open Go.ChangeShapes Go.WideShapes Go.ChangeAt Go.RowKit
open Go.ChangeMaps (open_string shut_string)
open M58
set_option linter.unusedVariables false

theorem own : ownKnob Try.prog.godebug = none := by kernel_rfl
theorem laidOut : laidOutB Try.prog = true := by kernel_rfl

set_option maxRecDepth 100000 in
set_option maxHeartbeats 1000000 in
theorem walk (a0 : Option Addr) (len0 cap0 : Nat) (z0 : List Int) (a1 : Option Addr) (len1 cap1 : Nat) (z1 : List Int) (w : World) (w0 : IsRow .u8 w a0 len0 cap0 z0) (w1 : IsRow .u8 w a1 len1 cap1 z1) :
    Calls Try.prog 5 #[.slice a0 len0 cap0, .slice a1 len1 cap1] w fun e w' => e = .returned (.bool true) ∧ Below w.heap.size w w' := by
  obtain ⟨hlen0, hmax0⟩ := len_any w0
  have hdig0 := dig_any w0
  obtain ⟨hlen1, hmax1⟩ := len_any w1
  have hdig1 := dig_any w1
  unfold maxLen at hmax0 hmax1
  by_cases hbig : 1048576 < len0 + len1
  · go_enter Try.func5, Try.ntmps5
    go_wp2_with (go_at_call 12; refine (bytes12_no _ _ _ _ _ _ _ hbig hmax1).mono ?_; rintro e w' ⟨rfl, rfl⟩)
    go_ret
    exact ⟨rfl, Below.refl _ _⟩
  by_cases hmid : 4096 < len0
  · have hm2 : (4096 : Int) < (len0 : Int) := by omega
    go_enter Try.func5, Try.ntmps5
    go_wp2_with (go_at_call 12; refine (bytes12_yes _ _ _ _ _ _ _ (by omega)).mono ?_; rintro e w' ⟨rfl, rfl⟩)
    go_ret
    exact ⟨rfl, Below.refl _ _⟩
  have hm2 : ¬ (4096 : Int) < (len0 : Int) := by omega
  by_cases hmid1 : 4096 < len1
  · have hm3 : (4096 : Int) < (len1 : Int) := by omega
    go_enter Try.func5, Try.ntmps5
    go_wp2_with (go_at_call 12; refine (bytes12_yes _ _ _ _ _ _ _ (by omega)).mono ?_; rintro e w' ⟨rfl, rfl⟩)
    go_ret
    exact ⟨rfl, Below.refl _ _⟩
  have hm3 : ¬ (4096 : Int) < (len1 : Int) := by omega
  have Hl0 := hide (fun h => lead_any w0 h)
  have Hl1 := hide (fun h => lead_any w1 h)
  have Hcl0 := hide (clone_any w0 (by omega))
  have W1 := hide w1
  clear w0 w1
  generalize hz : z0.take len0 = xs at *
  generalize hz' : z1.take len1 = ys at *
  have hx4 : xs.length ≤ 4096 := by omega
  have hy4 : ys.length ≤ 4096 := by omega
  have Hlen0 := hide hlen0
  have Hlen1 := hide hlen1
  have Hz' := hide hz'
  clear hlen0 hlen1 hz hz'
  obtain ⟨l0, hl0⟩ : ∃ l0 : Bool, l0 = (decide (0 < len0) && decide (xs.getD 0 0 = 0)) := ⟨_, rfl⟩
  obtain ⟨l1, hl1⟩ : ∃ l1 : Bool, l1 = (decide (0 < len1) && decide (ys.getD 0 0 = 0)) := ⟨_, rfl⟩
  have HL0 := hide hl0
  have HL1 := hide hl1
  clear hl0 hl1
  go_enter Try.func5, Try.ntmps5
  go_upto_region 7 with (go_at_call 12; refine (bytes12_yes _ _ _ _ _ _ _ (by omega)).mono ?_; rintro e w' ⟨rfl, rfl⟩)
  go_cut [23] (fun v wx => v = .bool l0 ∧ w = wx)
  case first =>
    by_cases hp : 0 < len0
    · obtain ⟨b, off, rfl, hc⟩ := unhide Hl0 hp
      have hpi : (0 : Int) < (len0 : Int) := by omega
      obtain ⟨x, hx⟩ : ∃ x, x = xs.getD 0 0 := ⟨_, rfl⟩
      rw [← hx] at hc
      have Hx := hide hx
      clear hx
      by_cases hx0 : x = 0
      · subst hx0
        go_wp2
        go_meet
        case rel => exact ⟨by rw [unhide HL0, ← unhide Hx]; simp [hp], rfl⟩
      · have hb : (x == 0) = false := by rw [beq_eq_false_iff_ne]; exact hx0
        go_wp2
        go_meet
        case rel => exact ⟨by rw [unhide HL0, ← unhide Hx]; simp [hx0], rfl⟩
    · have hpi : ¬ (0 : Int) < (len0 : Int) := by omega
      go_wp2
      go_meet
      case rel => exact ⟨by rw [unhide HL0]; simp [hp], rfl⟩
  case rest =>
    obtain ⟨rfl, rfl⟩ := hcut
    cases l0
    case true =>
      go_wp2
      go_ret
      exact ⟨rfl, Below.refl _ _⟩
    case false =>
      go_upto_region 9 with fail
      go_cut [32] (fun v wx => v = .bool l1 ∧ w = wx)
      case first =>
        by_cases hp : 0 < len1
        · obtain ⟨b, off, rfl, hc⟩ := unhide Hl1 hp
          have hpi : (0 : Int) < (len1 : Int) := by omega
          obtain ⟨x, hx⟩ : ∃ x, x = ys.getD 0 0 := ⟨_, rfl⟩
          rw [← hx] at hc
          have Hx := hide hx
          clear hx
          by_cases hx0 : x = 0
          · subst hx0
            go_wp2
            go_meet
            case rel => exact ⟨by rw [unhide HL1, ← unhide Hx]; simp [hp], rfl⟩
          · have hb : (x == 0) = false := by rw [beq_eq_false_iff_ne]; exact hx0
            go_wp2
            go_meet
            case rel => exact ⟨by rw [unhide HL1, ← unhide Hx]; simp [hx0], rfl⟩
        · have hpi : ¬ (0 : Int) < (len1 : Int) := by omega
          go_wp2
          go_meet
          case rel => exact ⟨by rw [unhide HL1]; simp [hp], rfl⟩
      case rest =>
        obtain ⟨rfl, rfl⟩ := hcut
        cases l1
        case true =>
          go_wp2
          go_ret
          exact ⟨rfl, Below.refl _ _⟩
        case false =>
          have hx0 : 0 < xs.length → xs.getD 0 0 ≠ 0 := by
            intro h e
            have := unhide HL0
            rw [unhide Hlen0] at h
            rw [decide_eq_true h, decide_eq_true e] at this
            simp at this
          have hy0 : 0 < ys.length → ys.getD 0 0 ≠ 0 := by
            intro h e
            have := unhide HL1
            rw [unhide Hlen1] at h
            rw [decide_eq_true h, decide_eq_true e] at this
            simp at this
          clear HL0 HL1 Hl0 Hl1
          go_wp2_with fail
          refine (unhide Hcl0).mono ?_
          rintro e wA ⟨vA, rfl, hA⟩
          obtain ⟨rdA, bA⟩ := hA.rd
          have HA := hide rdA
          clear hA rdA Hcl0
          have hcl1 := clone_any ((unhide W1).later bA) (by omega)
          rw [unhide Hz'] at hcl1
          have Hcl1 := hide hcl1
          clear hcl1 W1
          go_wp2_with fail
          refine (unhide Hcl1).mono ?_
          rintro e wB ⟨vB, rfl, hB⟩
          obtain ⟨rdB, bB⟩ := hB.rd
          have HA2 := hide ((unhide HA).later bB)
          have HB := hide rdB
          have b1 : Below w.heap.size w wB := bA.trans (bB.mono bA.size)
          clear hB rdB Hcl1 HA bA bB
          go_wp2_with fail
          refine (slexBytes (unhide HA2) (unhide HB) hx4).mono ?_
          rintro e wC ⟨rfl, bC⟩
          have HA3 := hide ((unhide HA2).later bC)
          have HB3 := hide ((unhide HB).later bC)
          have b2 : Below w.heap.size w wC := b1.trans (bC.mono b1.size)
          clear HA2 HB bC b1
          go_wp2_with fail
          refine (encode_rd (unhide HA3) hx4 hdig0).mono ?_
          rintro e wD ⟨o1, rfl, hE1, bD⟩
          have HB4 := hide ((unhide HB3).later bD)
          have b3 : Below w.heap.size w wD := b2.trans (bD.mono b2.size)
          clear HA3 HB3 bD b2
          go_wp2_with fail
          refine (encode_rd (unhide HB4) hy4 hdig1).mono ?_
          rintro e wE ⟨o2, rfl, hE2, bE⟩
          have b4 : Below w.heap.size w wE := b3.trans (bE.mono b3.size)
          clear HB4 bE b3
          have hord := order hdig0 hdig1 hx0 hy0 hE1 hE2
          obtain ⟨d1, hl1⟩ := enc_len hdig0 hE1
          obtain ⟨d2, hl2⟩ := enc_len hdig1 hE2
          rw [hord]
          clear hord hx0 hy0
          go_wp2_with fail
          refine (slexString _ (txt_nums d1) (txt_nums d2) (by omega)).mono ?_
          rintro e wF ⟨rfl, bF⟩
          go_wp2
          go_ret
          exact ⟨rfl, b4.trans (bF.mono b4.size)⟩

set_option maxRecDepth 100000 in
theorem lifted (os : Os) (started : os.Started) (H : Type) (enc : TypeId × Value → H) :
    ReturnsInHanded {} Try.checked os 5 .any (Rows.fnEncodeKeepsNumericOrderSpec.pre6 enc Try.prog Try.f5 Rows.fnEncodeKeepsNumericOrderRow.domain false) (Rows.fnEncodeKeepsNumericOrderSpec.post enc Try.prog Try.f5 false true false false) := by
  refine returnsInHanded_of_change (C := Try.checked) own started (by kernel_rfl) Try.func5
    (ChangeSpec.witness6 (enc := enc) (C := Try.checked) false ⟨#[], #[.slice none 0 0, .slice none 0 0], []⟩ 8 (by kernel_rfl) (by kernel_rfl) (by kernel_rfl) (by kernel_rfl)) ?_
  intro W base args ds gs before hval0 hW hcnd _
  have hval : ∀ (j : Nat) t v, Try.f5.params[j]? = some t → args[j]? = some v → Value.okWide Try.prog W .any base t v := hval0
  have hW' := hW
  obtain ⟨p, q, hA0, hV, rfl, hfz, hnd⟩ := hW
  have hA : DataW.TrodAll enc Try.prog W 0 (fun _ => true) true Try.f5.params.toList args.toList ds p := hA0
  rw [Try.params5] at hA hval
  obtain ⟨v0, vs0, d0, ds0, p0, q0, hargs, rfl, rfl, h0, r0⟩ := trodAll_cons hA
  obtain ⟨v1, vs1, d1, ds1, p1, q1, rfl, rfl, rfl, h1, r1⟩ := trodAll_cons r0
  obtain ⟨rfl, rfl, rfl⟩ := trodAll_nil r1
  obtain rfl : args = #[v0, v1] := by cases args; simp_all
  obtain ⟨rfl, rfl⟩ := trodVars_none hV
  obtain ⟨a0, len0, cap0, rfl⟩ := okWide_slice Try.underlying22 (hval 0 22 v0 rfl rfl)
  have k0 := h0
  have lt0 : ∀ x ∈ p0, x.block < W.heap.size := by obtain ⟨m, hm⟩ := k0; exact DataW.trod_lt m _ _ _ hm
  obtain ⟨z0, w0⟩ : ∃ zs, IsRow .u8 W a0 len0 cap0 zs := by
    obtain ⟨fuel, hf⟩ := h0
    rcases open_ints Try.underlying22 Try.underlying5 (by kernel_rfl) hf with ⟨hcs, _⟩ | ⟨x, l, c, zs, hcs, _, hl, hm, hz, _, hcell, hwz⟩
    · simp [Value.cells] at hcs
      obtain ⟨rfl, rfl, rfl⟩ := hcs
      exact ⟨[], .inl ⟨rfl, rfl, rfl, rfl⟩⟩
    · simp [Value.cells] at hcs
      obtain ⟨rfl, rfl, rfl⟩ := hcs
      exact ⟨zs, .inr ⟨_, rfl, hl, hm, by simpa using hz, hcell, hwz⟩⟩
  obtain ⟨a1, len1, cap1, rfl⟩ := okWide_slice Try.underlying22 (hval 1 22 v1 rfl rfl)
  have k1 := h1
  have lt1 : ∀ x ∈ p1, x.block < W.heap.size := by obtain ⟨m, hm⟩ := k1; exact DataW.trod_lt m _ _ _ hm
  obtain ⟨z1, w1⟩ : ∃ zs, IsRow .u8 W a1 len1 cap1 zs := by
    obtain ⟨fuel, hf⟩ := h1
    rcases open_ints Try.underlying22 Try.underlying5 (by kernel_rfl) hf with ⟨hcs, _⟩ | ⟨x, l, c, zs, hcs, _, hl, hm, hz, _, hcell, hwz⟩
    · simp [Value.cells] at hcs
      obtain ⟨rfl, rfl, rfl⟩ := hcs
      exact ⟨[], .inl ⟨rfl, rfl, rfl, rfl⟩⟩
    · simp [Value.cells] at hcs
      obtain ⟨rfl, rfl, rfl⟩ := hcs
      exact ⟨zs, .inr ⟨_, rfl, hl, hm, by simpa using hz, hcell, hwz⟩⟩
  clear hA0 hval0
  refine (walk a0 len0 cap0 z0 a1 len1 cap1 z1 W w0 w1).mono fun e W' ⟨he, bel⟩ => ?_
  subst he
  exact ⟨_, rfl, _, _, _, [], _, [], hW', trodAll_mk1 (shut_bool Try.underlying4 _), (trodAll_cons_mk (Below.trod laidOut (by kernel_rfl) (of_decide_eq_true (by kernel_rfl)) k0 bel lt0) (trodAll_cons_mk (Below.trod laidOut (by kernel_rfl) (of_decide_eq_true (by kernel_rfl)) k1 bel lt1) trodAll_mk0)), rfl, bel.frame _, fun h => by cases h⟩

theorem over : Rows.fnEncodeKeepsNumericOrderRow.holds Try.pinned (OpenSpec.ofChange Rows.fnEncodeKeepsNumericOrderSpec) :=
  OpenClaim.holds_of_wide 5 Try.f5 rfl rfl rfl rfl rfl rfl rfl ⟨rfl, rfl, rfl, rfl, rfl⟩ rfl rfl rfl rfl rfl (by kernel_rfl) Try.func5 (by kernel_rfl)
    (of_decide_eq_true (by kernel_rfl)) (by unfold Func.isWrapper; first | (rw [if_pos (by decide +kernel)]; kernel_rfl) | (rw [if_neg (by decide +kernel)]; exact ⟨rfl, rfl⟩))
    (fun os started H enc _ => lifted os started H enc)

theorem proved : Rows.FnEncodeKeepsNumericOrderSaid := over
end Go.Proofs.Qxb6603022a.fnEncodeKeepsNumericOrder
