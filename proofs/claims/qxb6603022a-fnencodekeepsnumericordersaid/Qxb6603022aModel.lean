/- zzDigitChar and zzModelEncode, walked. -/
import Derived.Test.Qxb6603022aEncNil
import Derived.Test.Qxb6603022aMath2
namespace Go.Proofs.Qxb6603022a
open Go.RowKit Go.WideShapes Go.ChangeShapes Go.ChangeAt
open M58

theorem digitChar (d : Int) (w : World) (h0 : 0 ≤ d) (h1 : d < 58) :
    Calls Try.prog 15 #[.int .i64 d] w fun e w' => e = .returned (.int .u8 (alpha d)) ∧ w = w' := by
  by_cases a1 : d < 9
  · have ha : alpha d = 49 + d := by simp [alpha, a1]
    rw [ha]; clear ha
    go_enter Try.func15, Try.ntmps15
    go_wp2
    go_ret
    exact ⟨rfl, rfl⟩
  by_cases a2 : d < 17
  · have ha : alpha d = 65 + (d - 9) := by simp [alpha, a1, a2]
    rw [ha]; clear ha
    go_enter Try.func15, Try.ntmps15
    go_wp2
    go_ret
    exact ⟨rfl, rfl⟩
  by_cases a3 : d < 22
  · have ha : alpha d = 74 + (d - 17) := by simp [alpha, a1, a2, a3]
    rw [ha]; clear ha
    go_enter Try.func15, Try.ntmps15
    go_wp2
    go_ret
    exact ⟨rfl, rfl⟩
  by_cases a4 : d < 33
  · have ha : alpha d = 80 + (d - 22) := by simp [alpha, a1, a2, a3, a4]
    rw [ha]; clear ha
    go_enter Try.func15, Try.ntmps15
    go_wp2
    go_ret
    exact ⟨rfl, rfl⟩
  by_cases a5 : d < 44
  · have ha : alpha d = 97 + (d - 33) := by simp [alpha, a1, a2, a3, a4, a5]
    rw [ha]; clear ha
    go_enter Try.func15, Try.ntmps15
    go_wp2
    go_ret
    exact ⟨rfl, rfl⟩
  · have ha : alpha d = 109 + (d - 44) := by simp [alpha, a1, a2, a3, a4, a5]
    rw [ha]; clear ha
    go_enter Try.func15, Try.ntmps15
    go_wp2
    go_ret
    exact ⟨rfl, rfl⟩

theorem hide {p : Prop} (h : p) : Hid p := h
theorem unhide {p : Prop} (h : Hid p) : p := h

/-- The length of the slice in a slot: for a loop's measure. -/
def lenOf : Value → Nat | .slice _ n _ => n | _ => 0

theorem map_getD (R : List Int) (i : Nat) (h : i < R.length) : (R.map alpha).getD i 0 = alpha (R.getD i 0) := by
  simp [List.getD, h]

set_option maxRecDepth 100000 in
set_option maxHeartbeats 2000000 in
theorem model_some (g n : Nat) (zs : List Int) (w : World) (hn : n ≤ 4096) (hz : zs.length = n) (hd : Dig 256 zs)
    (hc : ∀ i, i < n → w.cell? ⟨g, i, none⟩ = some (.int .u8 (zs.getD i 0))) (hg : g < w.heap.size) :
    Calls Try.prog 9 #[.slice (some ⟨g, 0, none⟩) n n] w fun e w' => ∃ out, e = .returned (.string (strOfNums out)) ∧ Enc zs out ∧ Below w.heap.size w w' := by
  obtain ⟨i0, hi, hz0, hz1, hz2⟩ := info_parts Try.info5
  have Hz : Hid (zs.length = n) := hz
  have Hc : Hid (∀ i, i < n → w.cell? ⟨g, i, none⟩ = some (.int .u8 (zs.getD i 0))) := hc
  clear hz hc
  go_enter Try.func9, Try.ntmps9
  go_upto_block 0 with fail
  go_cut [3] (fun zv wc => ∃ z : Nat, zv = .int .i64 z ∧ z ≤ n ∧ zs.take z = List.replicate z 0 ∧ (z < n → zs.getD z 0 ≠ 0) ∧ w = wc)
  case first =>
    go_wp2_with fail
    go_loop [3] (fun zv => ∃ z : Nat, zv = .int .i64 z ∧ z ≤ n ∧ zs.take z = List.replicate z 0) (fun zv => n - (intOf zv).toNat)
    case atStart => exact ⟨0, rfl, Nat.zero_le _, rfl⟩
    case round =>
      obtain ⟨z, rfl, hzn, htk⟩ := hrel
      have Htk : Hid (zs.take z = List.replicate z 0) := htk
      clear htk
      by_cases hlt : z < n
      · obtain ⟨x, hx⟩ : ∃ x, x = zs.getD z 0 := ⟨_, rfl⟩
        have hcx : w.cell? ⟨g, z, none⟩ = some (.int .u8 x) := by rw [hx]; exact Hc.out z hlt
        have Hx : Hid (x = zs.getD z 0) := hx
        clear hx
        by_cases hq : x = 0
        · subst hq
          go_wp2
          go_round
          case rel => exact ⟨z + 1, by go_num, by omega, zeros_step Htk.out (by rw [Hz.out]; exact hlt) Hx.out.symm⟩
          case measure => simp [intOf]; omega
        · have hb : (x == 0) = false := by rw [beq_eq_false_iff_ne]; exact hq
          go_wp2
          go_meet
          case rel => exact ⟨z, rfl, hzn, Htk.out, fun _ => by rw [← Hx.out]; exact hq, rfl⟩
      · go_wp2
        go_meet
        case rel => exact ⟨z, rfl, hzn, Htk.out, fun h => absurd h hlt, rfl⟩
  case rest =>
    obtain ⟨z, rfl, hzn, htk, hnz, rfl⟩ := hcut
    have Htk : Hid (zs.take z = List.replicate z 0) := htk
    have Hnz : Hid (z < n → zs.getD z 0 ≠ 0) := hnz
    clear htk hnz
    go_wp2_with (at_make; refine wpList_make_full _ rfl _ _ 22 rfl w.heap.size 5 i0 (.int .u8 0) 1 Try.underlying22 hi hz0 hz1 _ _ _ _ (n - z) rfl rfl (by omega) (by omega) ?c1 ?c2 ?c3 ?_)
    case c1 => rw [hz2]; omega
    case c2 => unfold maxLen; omega
    case c3 => exact Nat.le_refl _
    intro w1 hown hgrow
    rw [B8_made] at hown
    have hbel : Below w.heap.size w w1 := (Below.refl _ _).grown hgrow (Nat.le_refl _) (by simp)
    obtain ⟨gN, hgN⟩ : ∃ gN, gN = w.heap.size := ⟨_, rfl⟩
    have hgNb : w.heap.size ≤ gN := by omega
    rw [show (Value.slice (some ⟨w.heap.size, 0, none⟩) (n - z) (n - z)) = Value.slice (some ⟨gN, 0, none⟩) (n - z) (n - z) from by rw [hgN]] at hown ⊢
    clear hgrow
    have HgN : Hid (gN = w.heap.size) := hgN
    clear hgN
    go_wp2_with fail
    go_loopw [5] (fun i wr => ∃ k : Nat, z ≤ k ∧ k ≤ n ∧ i = .int .i64 k ∧ wr.ownsRow w.heap.size 5 1 (.slice (some ⟨gN, 0, none⟩) (n - z) (n - z)) (n - z) (B8 (copied (zs.drop z) (n - z) (k - z))) ∧ Below w.heap.size w wr) (fun i _ => n - (intOf i).toNat)
    case atStart => exact ⟨z, Nat.le_refl _, hzn, rfl, by simpa [copied] using hown, hbel⟩
    case round =>
      clear hown hbel
      obtain ⟨k, hzk, hk, rfl, ho, hbe⟩ := hrel
      by_cases hlt : k < n
      · obtain ⟨x, hx⟩ : ∃ x, x = zs.getD k 0 := ⟨_, rfl⟩
        have hcx : wr.cell? ⟨g, k, none⟩ = some (.int .u8 x) := by rw [hx]; exact (hbe.cell (by exact hg)).trans (Hc.out k hlt)
        have Hx : Hid (x = zs.getD k 0) := hx
        clear hx
        have hdl : n - z ≤ (zs.drop z).length := by rw [List.length_drop, Hz.out]; exact Nat.le_refl _
        have hfz := ho.frozenAt (k - z)
        have hce := own_cell ho (copied_len _ _ _ hdl (by omega)) (k - z) (by omega)
        have hst := (ho.stored (k - z) (.int .u8 x)).1
        have Hst : Hid ((wr.setCell ⟨gN, k - z, none⟩ (.int .u8 x)).ownsRow w.heap.size 5 1 (.slice (some ⟨gN, 0, none⟩) (n - z) (n - z)) (n - z) (B8 (copied (zs.drop z) (n - z) (k + 1 - z)))) := by
          show World.ownsRow _ _ _ _ _ _ _
          rw [show k + 1 - z = (k - z) + 1 by omega, ← copied_step _ _ _ hdl (by omega), ← B8_set]
          have e : (zs.drop z).getD (k - z) 0 = x := by rw [Hx.out]; simp [List.getD, show z + (k - z) = k by omega]
          rw [e]
          exact hst
        clear hst
        go_wp2
        go_roundw
        case rel => exact ⟨k + 1, by omega, by omega, by go_num, Hst.out, hbe.setCell hgNb _⟩
        case measure => simp [intOf]; omega
      · have hkn : k = n := by omega
        subst hkn
        have ho2 : wr.ownsRow w.heap.size 5 1 (.slice (some ⟨gN, 0, none⟩) (k - z) (k - z)) (k - z) (B8 (zs.drop z)) := by
          have e : copied (zs.drop z) (k - z) (k - z) = zs.drop z := by
            simp [copied]; rw [List.take_of_length_le (by rw [List.length_drop, Hz.out]; exact Nat.le_refl _)]
          rw [e] at ho; exact ho
        clear ho
        have hgNl := (ho2.lt gN rfl).2
        go_wp2_with (at_make; refine wpList_make_own _ rfl _ _ 22 rfl (gN + 1) 5 i0 (.int .u8 0) 1 Try.underlying22 hi hz0 hz1 _ _ _ 8 rfl rfl rfl ?d1 ?d2 ?d3 ?_)
        case d1 => rw [hz2]; omega
        case d2 => unfold maxLen; omega
        case d3 => omega
        intro w2 hownR hgrow
        have hbe2 : Below w.heap.size w w2 := hbe.grown hgrow hbe.size (by simp)
        have hN2 := ho2.kept hgrow (.inr (by simp [Value.ownBlock]))
        obtain ⟨N, hNdef⟩ : ∃ N, N = V 256 (zs.drop z).reverse 0 := ⟨_, rfl⟩
        have hdz : Dig 256 (zs.drop z) := Dig_drop hd z
        have hlz : (zs.drop z).length = k - z := by rw [List.length_drop, Hz.out]
        have hN256 : N < 256 ^ (k - z) := by rw [hNdef, ← hlz]; have := V_lt_pow (zs.drop z).reverse (Dig_reverse hdz); simpa using this
        have hO0 : Out N (k - z) [] (zs.drop z) 0 := by rw [hNdef, ← hlz]; exact out_start hdz
        have HN256 : Hid (N < 256 ^ (k - z)) := hN256
        have HN : Hid (N = V 256 (zs.drop z).reverse 0) := hNdef
        have hfirst : 0 < k - z → (zs.drop z).getD 0 0 ≠ 0 := by
          intro h; have := Hnz.out (by omega); simpa [List.getD] using this
        clear hgrow hbe ho2 hNdef hN256 hlz
        have hgR0 : gN + 1 ≤ wr.heap.size := by omega
        go_wp2_with fail
        go_loopw [6, 7] (fun v s wr => ∃ (gR capR t : Nat) (R X : List Int), v = .slice (some ⟨gR, 0, none⟩) R.length capR ∧ s = .int .i64 t ∧ gN + 1 ≤ gR ∧
            wr.ownsRow (gN + 1) 5 1 (.slice (some ⟨gR, 0, none⟩) R.length capR) R.length (B8 (R.map alpha)) ∧ wr.ownsRow w.heap.size 5 1 (.slice (some ⟨gN, 0, none⟩) (k - z) (k - z)) (k - z) (B8 X) ∧ Below w.heap.size w wr ∧
            Out N (k - z) R X t ∧ (t < k - z → X.getD t 0 ≠ 0)) (fun v _ _ => N.toNat - lenOf v)
        case atStart => exact ⟨_, _, 0, [], zs.drop z, rfl, rfl, hgR0, hownR, hN2, hbe2, hO0, hfirst⟩
        case round =>
          clear hownR hN2 hbe2 hO0 hfirst hdz
          obtain ⟨gR, capR, t, R, X, rfl, rfl, hgR, ho, hN, hbe, hO, hne⟩ := hrel
          have htm := hO.sm
          by_cases hlt : t < k - z
          · have hp := out_pos hO hlt (hne hlt)
            have hlR := out_len hO HN256.out hp
            have hlow := hO.low
            have Hne : Hid (t < k - z → X.getD t 0 ≠ 0) := hne
            clear hne
            go_wp2_with fail
            go_loopw [8, 9] (fun r i wr => ∃ (j : Nat) (Y : List Int) (q : Int), t ≤ j ∧ j ≤ k - z ∧ i = .int .i64 j ∧ r = .int .i64 q ∧ Div 256 58 X Y j q ∧ Y.take t = List.replicate t 0 ∧
                wr.ownsRow (gN + 1) 5 1 (.slice (some ⟨gR, 0, none⟩) R.length capR) R.length (B8 (R.map alpha)) ∧ wr.ownsRow w.heap.size 5 1 (.slice (some ⟨gN, 0, none⟩) (k - z) (k - z)) (k - z) (B8 Y) ∧ Below w.heap.size w wr)
              (fun _ i _ => k - z - (intOf i).toNat)
            case atStart => exact ⟨t, X, 0, Nat.le_refl _, htm, rfl, rfl, div_start hO.digX (by omega) hO.zer, hO.zer, ho, hN, hbe⟩
            case round =>
              clear ho hN hbe
              obtain ⟨j, Y, q, htj, hjk, rfl, rfl, hV, hYt, ho, hN, hbe⟩ := hrel
              have hq1 := hV.r0
              have hq2 := hV.r1
              have hYl : Y.length = k - z := hV.len.trans hO.lenX
              have HYl : Hid (Y.length = k - z) := hYl
              have HYt : Hid (Y.take t = List.replicate t 0) := hYt
              clear hYl hYt
              by_cases hjl : j < k - z
              · obtain ⟨y, hy⟩ : ∃ y, y = Y.getD j 0 := ⟨_, rfl⟩
                have hce : wr.cell? ⟨gN, j, none⟩ = some (.int .u8 y) := by rw [hy]; exact own_cell hN HYl.out j hjl
                have hfz := hN.frozenAt j
                have hy0 : 0 ≤ y ∧ y < 256 := by rw [hy]; exact Dig_get hV.dig _ (by rw [HYl.out]; exact hjl)
                have Hy : Hid (y = Y.getD j 0) := hy
                clear hy
                obtain ⟨hy1, hy2⟩ := hy0
                go_wp2
                go_roundw
                case rel =>
                  refine ⟨j + 1, Y.set j ((q * 256 + y) / 58), (q * 256 + y) % 58, by omega, by omega, by go_num, rfl, ?_, ?_, ho.kept (hN.stored j _).2 (.inr (by simp [Value.ownBlock]; omega)), ?_, hbe.setCell hgNb _⟩
                  · have := div_step (by omega) (by omega) hV (by rw [hO.lenX]; exact hjl)
                    rw [← Hy.out] at this
                    exact this
                  · rw [take_set_le _ _ _ _ htj]; exact HYt.out
                  · rw [← B8_set]
                    exact (hN.stored j _).1
                case measure => simp [intOf]; omega
              · have hjk2 : j = k - z := by omega
                subst hjk2
                have hVX : Div 256 58 X Y X.length q := by rw [hO.lenX]; exact hV
                have hO2 := out_step hO hp hVX HYt.out
                clear hV hVX
                have hgNw := (hN.lt gN rfl).2
                go_wp2_with (first | (go_at_call 15; refine (digitChar _ _ hq1 hq2).mono ?_; rintro e wd ⟨rfl, rfl⟩) | (at_builtin; refine wpList_append_own _ rfl _ _ 22 rfl (gN + 1) 5 i0 (.int .u8 0) 1 1 Try.underlying22 hi hz0 hz1 hz2 rfl (by decide) _ _ _ rfl (ho.alloc _) ⟨wr.heap.size, 0, none⟩ 1 1 [.int .u8 (alpha q)] rfl rfl ?e1 ?e2 ?e3 ?e4 ?e5 ?_))
                case e1 => exact cell_one_new _ _ _
                case e2 => intro u hu; simp at hu; subst hu; rfl
                case e3 => unfold maxLen; omega
                case e4 => omega
                case e5 => simp; omega
                intro v' w3 hown' hgrow _
                obtain ⟨g', cap', hv', hg'⟩ := own_shape hown'
                rw [hv'] at hown'
                rw [hv']
                rw [B8_snoc] at hown'
                have hbe3 : Below w.heap.size w w3 := (hbe.alloc hbe.size _).grown hgrow (by have := hbe.size; simp; omega) (by intro b hb; simp [Value.ownBlock] at hb; omega)
                have hN3 := (hN.alloc (Obj.cells #[Value.int IntKind.u8 (alpha q)] 5)).kept hgrow (.inr (by simp [Value.ownBlock]; omega))
                clear hgrow ho hbe hN hv'
                have HO2 : Hid (Out N (k - z) (R ++ [q]) Y t) := hO2
                clear hO2
                go_wp2_with fail
                go_loop [7] (fun s => ∃ t2 : Nat, t2 ≤ k - z ∧ s = .int .i64 t2 ∧ Y.take t2 = List.replicate t2 0) (fun s => k - z - (intOf s).toNat)
                case atStart => exact ⟨t, htm, rfl, HYt.out⟩
                case round =>
                  obtain ⟨t2, ht2, rfl, hY2⟩ := hrel
                  have HY2 : Hid (Y.take t2 = List.replicate t2 0) := hY2
                  clear hY2
                  have hfin : (t2 < k - z → Y.getD t2 0 ≠ 0) → ∃ (gR capR t : Nat) (R2 X : List Int), Value.slice (some ⟨g', 0, none⟩) (R.length + 1) cap' = .slice (some ⟨gR, 0, none⟩) R2.length capR ∧ Value.int .i64 t2 = .int .i64 t ∧ gN + 1 ≤ gR ∧
                      w3.ownsRow (gN + 1) 5 1 (.slice (some ⟨gR, 0, none⟩) R2.length capR) R2.length (B8 (R2.map alpha)) ∧ w3.ownsRow w.heap.size 5 1 (.slice (some ⟨gN, 0, none⟩) (k - z) (k - z)) (k - z) (B8 X) ∧ Below w.heap.size w w3 ∧
                      Out N (k - z) R2 X t ∧ (t < k - z → X.getD t 0 ≠ 0) := fun hh => ⟨g', cap', t2, R ++ [q], Y, by simp, rfl, hg', by simpa using hown', hN3, hbe3, out_move HO2.out HY2.out ht2, hh⟩
                  have Hfin := hide hfin
                  clear hfin
                  by_cases hlt2 : t2 < k - z
                  · obtain ⟨y, hy⟩ : ∃ y, y = Y.getD t2 0 := ⟨_, rfl⟩
                    have hce : w3.cell? ⟨gN, t2, none⟩ = some (.int .u8 y) := by rw [hy]; exact own_cell hN3 HYl.out t2 hlt2
                    have Hy : Hid (y = Y.getD t2 0) := hy
                    clear hy
                    by_cases hq : y = 0
                    · subst hq
                      go_wp2
                      go_round
                      case rel => exact ⟨t2 + 1, by omega, by go_num, zeros_step HY2.out (by rw [HYl.out]; exact hlt2) Hy.out.symm⟩
                      case measure => simp [intOf]; omega
                    · have hb : (y == 0) = false := by rw [beq_eq_false_iff_ne]; exact hq
                      go_wp2
                      go_roundw
                      case rel => exact unhide Hfin (fun _ => by rw [← Hy.out]; exact hq)
                      case measure => simp [lenOf]; omega
                  · go_wp2
                    go_roundw
                    case rel => exact unhide Hfin (fun h => absurd h hlt2)
                    case measure => simp [lenOf]; omega
          · have htk2 : t = k - z := by omega
            subst htk2
            obtain ⟨cR, vR⟩ := out_end hO
            have dR := hO.digR
            have hlR : R.length ≤ 2 * (k - z) + 1 := canon_len dR cR (by rw [vR]; exact HN256.out)
            have HV : Hid (V 58 R 0 = V 256 (zs.drop z).reverse 0) := by
              have e : V 58 R 0 = V 256 (zs.drop z).reverse 0 := by rw [vR]; exact HN.out
              exact e
            clear vR hO hne
            have hgRl := (ho.lt gR rfl).2
            go_wp2_with (at_make; refine wpList_make_full _ rfl _ _ 22 rfl w.heap.size 5 i0 (.int .u8 0) 1 Try.underlying22 hi hz0 hz1 _ _ _ _ (z + R.length) rfl rfl (by omega) (by omega) ?f1 ?f2 ?f3 ?_)
            case f1 => rw [hz2]; omega
            case f2 => unfold maxLen; omega
            case f3 => exact hbe.size
            intro w4 hown4 hgrow
            rw [B8_made] at hown4
            have hbe4 : Below w.heap.size w w4 := hbe.grown hgrow hbe.size (by simp)
            have ho4 := ho.kept hgrow (.inr (by simp [Value.ownBlock]))
            obtain ⟨gO, hgO⟩ : ∃ gO, gO = wr.heap.size := ⟨_, rfl⟩
            rw [← hgO] at hown4 hgRl ⊢
            have hgOb : w.heap.size ≤ gO := by rw [hgO]; exact hbe.size
            clear hgrow hbe ho hgO hN
            go_wp2_with fail
            go_loopw [12] (fun i wr => ∃ j : Nat, j ≤ z ∧ i = .int .i64 j ∧ wr.ownsRow w.heap.size 5 1 (.slice (some ⟨gO, 0, none⟩) (z + R.length) (z + R.length)) (z + R.length) (B8 (ones (z + R.length) j)) ∧
                wr.ownsRow (gN + 1) 5 1 (.slice (some ⟨gR, 0, none⟩) R.length capR) R.length (B8 (R.map alpha)) ∧ Below w.heap.size w wr) (fun i _ => z - (intOf i).toNat)
            case atStart => exact ⟨0, Nat.zero_le _, rfl, by simpa [ones] using hown4, ho4, hbe4⟩
            case round =>
              clear hown4 ho4 hbe4
              obtain ⟨j, hj, rfl, hO, ho, hbe⟩ := hrel
              by_cases hjz : j < z
              · have hfz := hO.frozenAt j
                have hce := own_cell hO (ones_len _ _ (by omega)) j (by omega)
                go_wp2
                go_roundw
                case rel =>
                  refine ⟨j + 1, by omega, by go_num, ?_, ho.kept (hO.stored j _).2 (.inr (by simp [Value.ownBlock]; omega)), hbe.setCell hgOb _⟩
                  have st := (hO.stored j (.int .u8 49)).1
                  rw [B8_set, ones_step _ _ (by omega)] at st
                  exact st
                case measure => simp [intOf]; omega
              · have hjz2 : j = z := by omega
                subst hjz2
                have hTl : (R.map alpha).length = R.length := by simp
                go_wp2_with fail
                go_loopw [13] (fun i wr => ∃ u : Nat, u ≤ R.length ∧ i = .int .i64 u ∧ wr.ownsRow w.heap.size 5 1 (.slice (some ⟨gO, 0, none⟩) (j + R.length) (j + R.length)) (j + R.length) (B8 (laid j (R.map alpha) u)) ∧
                    wr.ownsRow (gN + 1) 5 1 (.slice (some ⟨gR, 0, none⟩) R.length capR) R.length (B8 (R.map alpha)) ∧ Below w.heap.size w wr) (fun i _ => R.length - (intOf i).toNat)
                case atStart => exact ⟨0, Nat.zero_le _, rfl, by rw [laid_zero, hTl]; exact hO, ho, hbe⟩
                case round =>
                  clear hO ho hbe
                  obtain ⟨u, hu, rfl, hO, ho, hbe⟩ := hrel
                  have hLl : (laid j (R.map alpha) u).length = j + R.length := by rw [laid_len _ _ _ (by rw [hTl]; exact hu), hTl]
                  have HLl := hide hLl
                  clear hLl
                  by_cases hul : u < R.length
                  · obtain ⟨d, hdd⟩ : ∃ d, d = (R.map alpha).getD (R.length - 1 - u) 0 := ⟨_, rfl⟩
                    have hcd : wr.cell? ⟨gR, R.length - 1 - u, none⟩ = some (.int .u8 d) := by rw [hdd]; exact own_cell ho hTl (R.length - 1 - u) (by omega)
                    have Hdd := hide hdd
                    clear hdd
                    have hfz := hO.frozenAt (j + u)
                    have hce := own_cell hO HLl.out (j + u) (by omega)
                    have HTl := hide hTl
                    clear hTl
                    go_wp2
                    go_roundw
                    case rel =>
                      refine ⟨u + 1, by omega, by go_num, ?_, ho.kept (hO.stored _ _).2 (.inr (by simp [Value.ownBlock]; omega)), hbe.setCell hgOb _⟩
                      have st := (hO.stored (j + u) (.int .u8 d)).1
                      have st2 := laid_step j (R.map alpha) u (by rw [unhide HTl]; exact hul)
                      rw [unhide HTl, ← unhide Hdd] at st2
                      rw [B8_set, st2] at st
                      exact st
                    case measure => simp [intOf]; omega
                  · have hue : u = R.length := by omega
                    subst hue
                    have hcv := run_convert_bytes_arg (P := Try.prog) wr 22 5 Try.underlying22 Try.underlying5 gO 0 (j + R.length) (j + R.length) (laid j (R.map alpha) R.length) HLl.out (fun i hi => by rw [Nat.zero_add]; exact own_cell hO HLl.out i hi) 9 Try.underlying9
                    have HTl := hide hTl
                    clear hTl
                    go_wp2
                    go_ret
                    refine ⟨_, rfl, ⟨j, R, by rw [Hz.out]; exact hzn, Htk.out, by rw [Hz.out]; exact Hnz.out, dR, cR, HV.out, ?_⟩, hbe⟩
                    have := laid_end j (R.map alpha)
                    rw [unhide HTl] at this
                    exact this
end Go.Proofs.Qxb6603022a
