/- Encode, walked. -/
import Derived.Test.Qxb6603022aClone
import Derived.Deep.DeepCutAuto
import Derived.Deep.CutBlock
import Derived.Laws.BytesArg
import Derived.Maps.AppendAt
namespace Go.Proofs.Qxb6603022a
open Go.RowKit Go.WideShapes Go.ChangeShapes Go.ChangeAt
open M58

theorem zeros_step {zs : List Int} {z : Nat} (h : zs.take z = List.replicate z 0) (hz : z < zs.length) (h0 : zs.getD z 0 = 0) : zs.take (z + 1) = List.replicate (z + 1) 0 := by
  rw [M58.take_snoc hz, h, h0, List.replicate_succ']

theorem own_shape {w : World} {base n : Nat} {v : Value} {xs : List Value} (h : w.ownsRow base 5 1 v (n + 1) xs) : ∃ g cap, v = .slice (some ⟨g, 0, none⟩) (n + 1) cap ∧ base ≤ g := by
  rcases h.2 with ⟨_, h0⟩ | ⟨g, cap, cur, hv, hb, _⟩
  · omega
  · exact ⟨g, cap, hv, hb⟩

theorem B8_snoc (l : List Int) (r : Int) : B8 l ++ [.int .u8 r] = B8 (l ++ [r]) := by simp [B8]

theorem al_fin : ∀ k : Fin 58, (((⟨#[49, 50, 51, 52, 53, 54, 55, 56, 57, 65, 66, 67, 68, 69, 70, 71, 72, 74, 75, 76, 77, 78, 80, 81, 82, 83, 84, 85, 86, 87, 88, 89, 90, 97, 98, 99, 100, 101, 102, 103, 104, 105, 106, 107, 109, 110, 111, 112, 113, 114, 115, 116, 117, 118, 119, 120, 121, 122]⟩ : ByteArray)[k.val]'(k.isLt)).toNat : Int) = alpha (k.val : Int) := by decide
theorem al_alpha (d : Int) (h0 : 0 ≤ d) (h1 : d < 58) (hp : d.toNat < (⟨#[49, 50, 51, 52, 53, 54, 55, 56, 57, 65, 66, 67, 68, 69, 70, 71, 72, 74, 75, 76, 77, 78, 80, 81, 82, 83, 84, 85, 86, 87, 88, 89, 90, 97, 98, 99, 100, 101, 102, 103, 104, 105, 106, 107, 109, 110, 111, 112, 113, 114, 115, 116, 117, 118, 119, 120, 121, 122]⟩ : ByteArray).size) :
    (((⟨#[49, 50, 51, 52, 53, 54, 55, 56, 57, 65, 66, 67, 68, 69, 70, 71, 72, 74, 75, 76, 77, 78, 80, 81, 82, 83, 84, 85, 86, 87, 88, 89, 90, 97, 98, 99, 100, 101, 102, 103, 104, 105, 106, 107, 109, 110, 111, 112, 113, 114, 115, 116, 117, 118, 119, 120, 121, 122]⟩ : ByteArray)[d.toNat]'hp).toNat : Int) = alpha d := by
  have h := al_fin ⟨d.toNat, by omega⟩
  have e : ((d.toNat : Nat) : Int) = d := by omega
  simp only [e] at h
  exact h

/-- one byte more -/
theorem byte_step {zs : List Int} {z k : Nat} {x N : Int} (hx : x = zs.getD (z + k) 0) (hk : z + k < zs.length) (hN : N = V 256 ((zs.drop z).take k).reverse 0) :
    x + 256 * N = V 256 ((zs.drop z).take (k + 1)).reverse 0 := by
  have hl : k < (zs.drop z).length := by simp; omega
  rw [M58.take_snoc hl, V_rev_snoc, ← hN, hx]
  congr 1
  simp [List.getD]

set_option maxRecDepth 100000 in
set_option maxHeartbeats 1000000 in
theorem encode_some (g n : Nat) (zs : List Int) (w : World) (hn : n ≤ 4096) (hz : zs.length = n) (hd : Dig 256 zs)
    (hc : ∀ i, i < n → w.cell? ⟨g, i, none⟩ = some (.int .u8 (zs.getD i 0))) (hg : g < w.heap.size) :
    Calls Try.prog 8 #[.slice (some ⟨g, 0, none⟩) n n] w fun e w' => ∃ out, e = .returned (.string (strOfNums out)) ∧ Enc zs out ∧ Below w.heap.size w w' := by
  obtain ⟨i0, hi, hz0, hz1, hz2⟩ := info_parts Try.info5
  have Hz : Hid (zs.length = n) := hz
  have Hc : Hid (∀ i, i < n → w.cell? ⟨g, i, none⟩ = some (.int .u8 (zs.getD i 0))) := hc
  clear hz hc
  go_enter Try.func8, Try.ntmps8
  go_upto_block 0 with fail
  go_cut [3] (fun zv wc => ∃ z : Nat, zv = .int .i64 z ∧ z ≤ n ∧ zs.take z = List.replicate z 0 ∧ (z < n → zs.getD z 0 ≠ 0) ∧ w = wc)
  case first =>
    go_wp2_with fail
    go_loop [3] (fun zv => ∃ z : Nat, zv = .int .i64 z ∧ z ≤ n ∧ zs.take z = List.replicate z 0) (fun zv => n - (intOf zv).toNat)
    case atStart => exact ⟨0, rfl, Nat.zero_le _, rfl⟩
    case round =>
      obtain ⟨z, rfl, hzn, htk⟩ := hrel
      have Htk : Hid (zs.take z = List.replicate z 0) := htk
      clear htk
      by_cases hlt : z < n
      · obtain ⟨x, hx⟩ : ∃ x, x = zs.getD z 0 := ⟨_, rfl⟩
        have hcx : w.cell? ⟨g, z, none⟩ = some (.int .u8 x) := by rw [hx]; exact Hc.out z hlt
        have Hx : Hid (x = zs.getD z 0) := hx
        clear hx
        by_cases hq : x = 0
        · subst hq
          go_wp2
          go_round
          case rel => exact ⟨z + 1, by go_num, by omega, zeros_step Htk.out (by rw [Hz.out]; exact hlt) Hx.out.symm⟩
          case measure => simp [intOf]; omega
        · have hb : (x == 0) = false := by rw [beq_eq_false_iff_ne]; exact hq
          go_wp2
          go_meet
          case rel => exact ⟨z, rfl, hzn, Htk.out, fun _ => by rw [← Hx.out]; exact hq, rfl⟩
      · go_wp2
        go_meet
        case rel => exact ⟨z, rfl, hzn, Htk.out, fun h => absurd h hlt, rfl⟩
  case rest =>
    obtain ⟨z, rfl, hzn, htk, hnz, rfl⟩ := hcut
    have Htk : Hid (zs.take z = List.replicate z 0) := htk
    have Hnz : Hid (z < n → zs.getD z 0 ≠ 0) := hnz
    clear htk hnz
    go_wp2_with (at_make; refine wpList_make_own _ rfl _ _ 22 rfl w.heap.size 5 i0 (.int .u8 0) 1 Try.underlying22 hi hz0 hz1 _ _ _ (n * 138 / 100 + 1) rfl rfl (by omega) ?c1 ?c2 ?c3 ?_)
    case c1 => rw [hz2]; omega
    case c2 => unfold maxLen; omega
    case c3 => exact Nat.le_refl _
    intro w1 hown hgrow
    have hbel : Below w.heap.size w w1 := (Below.refl _ _).grown hgrow (Nat.le_refl _) (by simp)
    clear hgrow
    go_upto_region 5 with fail
    go_cut [34, 35, 36] (fun s l i wx => ∃ ao : Option Addr, s = .slice ao (n - z) (n - z) ∧ l = .int .i64 ((n - z : Nat) : Int) ∧ i = .int .i64 0 ∧ (z < n → ao = some ⟨g, z, none⟩) ∧ w1 = wx)
    case first =>
      by_cases hzz : z < n
      · have hne : ¬ n = z := by omega
        go_wp2
        go_meet
        case rel => exact ⟨_, rfl, rfl, rfl, fun _ => by simp, rfl⟩
      · have hnz2 : z = n := by omega
        subst hnz2
        go_wp2
        go_meet
        case rel => exact ⟨_, by simp; rfl, by simp, rfl, fun h => absurd h (by omega), rfl⟩
    case rest =>
      obtain ⟨ao, rfl, rfl, rfl, hao, rfl⟩ := hcut
      have Hao : Hid (z < n → ao = some ⟨g, z, none⟩) := hao
      clear hao
      go_wp2_with fail
      go_loopw [4, 36] (fun v i wr => ∃ (k gD cap : Nat) (D : List Int), k ≤ n - z ∧ i = .int .i64 k ∧ v = .slice (some ⟨gD, 0, none⟩) D.length cap ∧ w.heap.size ≤ gD ∧
          wr.ownsRow w.heap.size 5 1 (.slice (some ⟨gD, 0, none⟩) D.length cap) D.length (B8 D) ∧ Below w.heap.size w wr ∧ Dig 58 D ∧ Canon D ∧ D.length ≤ 2 * k ∧ V 58 D 0 = V 256 ((zs.drop z).take k).reverse 0)
        (fun _ i _ => n - (intOf i).toNat)
      case atStart => exact ⟨0, w.heap.size, _, [], by omega, rfl, rfl, Nat.le_refl _, hown, hbel, Dig_nil _, canon_nil, Nat.zero_le _, by simp [V_nil]⟩
      case round =>
        clear hown hbel
        obtain ⟨k, gD, cap, D, hk, rfl, rfl, hgD, ho, hbe, hD, cD, hlD, hvD⟩ := hrel
        have HvD : Hid (V 58 D 0 = V 256 ((zs.drop z).take k).reverse 0) := hvD
        clear hvD
        by_cases hlt : k < n - z
        · have hao2 : ao = some ⟨g, z, none⟩ := Hao.out (by omega)
          subst hao2
          obtain ⟨x, hx⟩ : ∃ x, x = zs.getD (z + k) 0 := ⟨_, rfl⟩
          have hcx : wr.cell? ⟨g, z + k, none⟩ = some (.int .u8 x) := by rw [hx]; exact (hbe.cell (by exact hg)).trans (Hc.out (z + k) (by omega))
          have hx0 : 0 ≤ x ∧ x < 256 := by rw [hx]; exact Dig_get hd _ (by rw [Hz.out]; omega)
          have Hx : Hid (x = zs.getD (z + k) 0) := hx
          clear hx
          obtain ⟨hx1, hx2⟩ := hx0
          go_wp2_with fail
          go_loopw [7, 44] (fun c i wr => ∃ (j : Nat) (L : List Int) (q : Int), j ≤ D.length ∧ i = .int .i64 j ∧ c = .int .i64 q ∧ Inner 58 256 D x L j q ∧ wr.ownsRow w.heap.size 5 1 (.slice (some ⟨gD, 0, none⟩) D.length cap) D.length (B8 L) ∧ Below w.heap.size w wr)
            (fun _ i _ => D.length - (intOf i).toNat)
          case atStart => exact ⟨0, D, x, Nat.zero_le _, rfl, rfl, inner_start hD hx1 hx2, ho, hbe⟩
          case round =>
            clear ho hbe
            obtain ⟨j, L, q, hj, rfl, rfl, hI, ho, hbe⟩ := hrel
            have hq1 := hI.k0
            have hq2 := hI.k1
            by_cases hjl : j < D.length
            · obtain ⟨d, hdd⟩ : ∃ d, d = L.getD j 0 := ⟨_, rfl⟩
              have hce : wr.cell? ⟨gD, j, none⟩ = some (.int .u8 d) := by rw [hdd]; exact own_cell ho hI.len j hjl
              have hfz := ho.frozenAt j
              have hd0 : 0 ≤ d ∧ d < 58 := by rw [hdd]; exact Dig_get hI.dig _ (by rw [hI.len]; exact hjl)
              have Hdd : Hid (d = L.getD j 0) := hdd
              clear hdd
              obtain ⟨hd1, hd2⟩ := hd0
              go_wp2
              go_roundw
              case rel =>
                refine ⟨j + 1, L.set j ((q + d * 256) % 58), (q + d * 256) / 58, by omega, by go_num, rfl, ?_, ?_, hbe.setCell hgD _⟩
                · have := inner_step (by omega) (by omega) hI hjl
                  rw [← Hdd.out] at this
                  exact this
                · rw [← B8_set]
                  exact (ho.stored j _).1
              case measure => simp [intOf]; omega
            · have hjD : j = D.length := by omega
              subst hjD
              have hT := inner_end (by omega) (by omega) hD cD hx1 hI
              have hlL := hI.len
              have HlL : Hid (L.length = D.length) := hlL
              clear hlL hI
              go_wp2_with fail
              go_loopw [4, 7] (fun v c wr => ∃ (gL capL : Nat) (L : List Int) (q : Int), v = .slice (some ⟨gL, 0, none⟩) L.length capL ∧ c = .int .i64 q ∧ w.heap.size ≤ gL ∧ wr.ownsRow w.heap.size 5 1 (.slice (some ⟨gL, 0, none⟩) L.length capL) L.length (B8 L) ∧ Below w.heap.size w wr ∧
                  Tail 58 (x + 256 * V 58 D 0) L q ∧ q ≤ 255 ∧ (57 < q → L.length ≤ 2 * k) ∧ (0 < q → L.length ≤ 2 * k + 1) ∧ L.length ≤ 2 * k + 2)
                (fun _ c _ => (intOf c).toNat)
              case atStart => exact ⟨gD, cap, L, q, by rw [HlL.out], rfl, hgD, by rw [HlL.out]; exact ho, hbe, hT, by omega, fun _ => by rw [HlL.out]; exact hlD, fun _ => by rw [HlL.out]; omega, by rw [HlL.out]; omega⟩
              case round =>
                clear ho hbe hT HlL
                obtain ⟨gL, capL, L2, q2, rfl, rfl, hgL, ho, hbe, hT, hq3, hl1, hl2, hl3⟩ := hrel
                have hq4 := hT.k0
                by_cases hqp : 0 < q2
                · have hl2' := hl2 hqp
                  go_wp2_with (at_builtin; refine wpList_append_own _ rfl _ _ 22 rfl w.heap.size 5 i0 (.int .u8 0) 1 1 Try.underlying22 hi hz0 hz1 hz2 rfl (by decide) _ _ _ rfl (ho.alloc _) ⟨wr.heap.size, 0, none⟩ 1 1 [.int .u8 (q2 % 58)] rfl rfl ?c1 ?c2 ?c3 ?c4 ?c5 ?_)
                  case c1 => exact cell_one_new _ _ _
                  case c2 => intro u hu; simp at hu; subst hu; rfl
                  case c3 => unfold maxLen; omega
                  case c4 => omega
                  case c5 => have := hbe.size; simp; omega
                  intro v' w2 hown' hgrow _
                  obtain ⟨g', cap', hv', hg'⟩ := own_shape hown'
                  rw [hv'] at hown'
                  rw [hv']
                  rw [B8_snoc] at hown'
                  have hbe2 : Below w.heap.size w w2 := (hbe.alloc hbe.size _).grown hgrow (by have := hbe.size; simp; omega) (by intro b hb; simp [Value.ownBlock] at hb; omega)
                  have hT2 := tail_step (by omega) hT hqp
                  clear hgrow ho hbe hT hv'
                  go_wp2
                  go_roundw
                  case rel => exact ⟨g', cap', L2 ++ [q2 % 58], q2 / 58, by simp, rfl, hg', by simpa using hown', hbe2, hT2, by omega, fun h => by omega, fun h => by simp; have := hl1 (by omega); omega, by simp; omega⟩
                  case measure => simp [intOf]; omega
                · have hq20 : q2 = 0 := by omega
                  subst hq20
                  have hv := hT.val
                  have HvL : Hid (V 58 L2 0 = x + 256 * V 58 D 0) := hv
                  have cL := hT.can rfl
                  have dL := hT.dig
                  clear hv hT
                  go_wp2_with fail
                  go_roundw
                  case rel => exact ⟨k + 1, gL, capL, L2, by omega, by go_num, rfl, hgL, ho, hbe, dL, cL, by omega, by rw [HvL.out]; exact byte_step Hx.out (by rw [Hz.out]; omega) HvD.out⟩
                  case measure => simp [intOf]; omega
        · have hkz : k = n - z := by omega
          have hvD : V 58 D 0 = V 256 (zs.drop z).reverse 0 := by
            rw [HvD.out, List.take_of_length_le (by rw [List.length_drop, Hz.out]; omega)]
          have HV : Hid (V 58 D 0 = V 256 (zs.drop z).reverse 0) := hvD
          clear hvD HvD hkz
          go_wp2_with (at_make; refine wpList_make_full _ rfl _ _ 22 rfl w.heap.size 5 i0 (.int .u8 0) 1 Try.underlying22 hi hz0 hz1 _ _ _ _ (z + D.length) rfl rfl (by omega) (by omega) ?d1 ?d2 ?d3 ?_)
          case d1 => rw [hz2]; omega
          case d2 => unfold maxLen; omega
          case d3 => exact hbe.size
          intro w2 hown2 hgrow
          rw [B8_made] at hown2
          have hbe2 : Below w.heap.size w w2 := hbe.grown hgrow hbe.size (by simp)
          have ho2 := ho.kept hgrow (.inr (by simp [Value.ownBlock]))
          have hgDr : gD < wr.heap.size := (ho.lt gD rfl).2
          obtain ⟨gO, hgO⟩ : ∃ gO, gO = wr.heap.size := ⟨_, rfl⟩
          rw [← hgO] at hown2 hgDr ⊢
          have hgOb : w.heap.size ≤ gO := by rw [hgO]; exact hbe.size
          clear hgrow hbe ho hgO
          go_wp2_with fail
          go_loopw [10] (fun i wr => ∃ j : Nat, j ≤ z ∧ i = .int .i64 j ∧ wr.ownsRow w.heap.size 5 1 (.slice (some ⟨gO, 0, none⟩) (z + D.length) (z + D.length)) (z + D.length) (B8 (ones (z + D.length) j)) ∧
              wr.ownsRow w.heap.size 5 1 (.slice (some ⟨gD, 0, none⟩) D.length cap) D.length (B8 D) ∧ Below w.heap.size w wr) (fun i _ => z - (intOf i).toNat)
          case atStart => exact ⟨0, Nat.zero_le _, rfl, by simpa [ones] using hown2, ho2, hbe2⟩
          case round =>
            clear hown2 ho2 hbe2
            obtain ⟨j, hj, rfl, hO, ho, hbe⟩ := hrel
            by_cases hjz : j < z
            · have hfz := hO.frozenAt j
              have hce := own_cell hO (ones_len _ _ (by omega)) j (by omega)
              go_wp2
              go_roundw
              case rel =>
                refine ⟨j + 1, by omega, by go_num, ?_, ho.kept (hO.stored j _).2 (.inr (by simp [Value.ownBlock]; omega)), hbe.setCell hgOb _⟩
                have st := (hO.stored j (.int .u8 49)).1
                rw [B8_set, ones_step _ _ (by omega)] at st
                exact st
              case measure => simp [intOf]; omega
            · have hjz2 : j = z := by omega
              subst hjz2
              go_wp2_with fail
              go_loopw [91] (fun i wr => ∃ t : Nat, t ≤ D.length ∧ i = .int .i64 t ∧ wr.ownsRow w.heap.size 5 1 (.slice (some ⟨gO, 0, none⟩) (j + D.length) (j + D.length)) (j + D.length) (B8 (filled j D t)) ∧
                  wr.ownsRow w.heap.size 5 1 (.slice (some ⟨gD, 0, none⟩) D.length cap) D.length (B8 D) ∧ Below w.heap.size w wr) (fun i _ => D.length - (intOf i).toNat)
              case atStart => exact ⟨0, Nat.zero_le _, rfl, by rw [filled_zero]; exact hO, ho, hbe⟩
              case round =>
                clear hO ho hbe
                obtain ⟨t, ht, rfl, hO, ho, hbe⟩ := hrel
                by_cases htl : t < D.length
                · obtain ⟨d, hdd⟩ : ∃ d, d = D.getD t 0 := ⟨_, rfl⟩
                  have hcd : wr.cell? ⟨gD, t, none⟩ = some (.int .u8 d) := by rw [hdd]; exact own_cell ho rfl t htl
                  have hd0 : 0 ≤ d ∧ d < 58 := by rw [hdd]; exact Dig_get hD _ htl
                  have Hdd : Hid (d = D.getD t 0) := hdd
                  clear hdd
                  obtain ⟨hd1, hd2⟩ := hd0
                  have hfz := hO.frozenAt (j + D.length - 1 - t)
                  have hce := own_cell hO (filled_len _ _ _ ht) (j + D.length - 1 - t) (by omega)
                  go_wp2
                  go_roundw
                  case rel =>
                    refine ⟨t + 1, by omega, by go_num, ?_, ho.kept (hO.stored _ _).2 (.inr (by simp [Value.ownBlock]; omega)), hbe.setCell hgOb _⟩
                    rw [al_alpha d hd1 hd2]
                    have st := (hO.stored (j + D.length - 1 - t) (.int .u8 (alpha d))).1
                    rw [B8_set, Hdd.out, filled_step _ _ _ htl, ← Hdd.out] at st
                    exact st
                  case measure => simp [intOf]; omega
                · have htD : t = D.length := by omega
                  subst htD
                  have hcv := run_convert_bytes_arg (P := Try.prog) wr 22 5 Try.underlying22 Try.underlying5 gO 0 (j + D.length) (j + D.length) (filled j D D.length) (filled_len _ _ _ ht) (fun i hi => by rw [Nat.zero_add]; exact own_cell hO (filled_len _ _ _ ht) i hi) 9 Try.underlying9
                  go_wp2
                  go_ret
                  refine ⟨_, rfl, ⟨j, D, by rw [Hz.out]; exact hzn, Htk.out, by rw [Hz.out]; exact Hnz.out, hD, cD, HV.out, filled_end j D⟩, hbe⟩
end Go.Proofs.Qxb6603022a
