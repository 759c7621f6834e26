/- zzDecode, walked. -/
import Derived.Test.Qxb6603022aDigVal
import Derived.Test.Qxb6603022aMath3
namespace Go.Proofs.Qxb6603022a
open Go.RowKit Go.WideShapes Go.ChangeShapes Go.ChangeAt
open M58

/-- The string s holds the bytes 'out'. -/
def Txt (s : ByteArray) (out : List Int) : Prop := s.size = out.length ∧ ∀ i (h : i < s.size), ((s[i]'h).toNat : Int) = out.getD i 0

theorem txt_nums {out : List Int} (h : Dig 256 out) : Txt (strOfNums out) out := by
  refine ⟨strOfNums_size out, ?_⟩
  intro i hi
  have hl : i < out.length := by rw [strOfNums_size] at hi; exact hi
  have e : (strOfNums out)[i] = UInt8.ofNat (out[i]).toNat := by
    show (strOfNums out).data[i] = _
    simp [strOfNums]
  have hd := h out[i] (List.getElem_mem hl)
  rw [e]
  simp only [UInt8.toNat_ofNat', List.getD, List.getElem?_eq_getElem hl, Option.getD_some]
  omega

set_option maxRecDepth 100000 in
set_option maxHeartbeats 2000000 in
theorem decode_any (s : ByteArray) (z : Nat) (R : List Int) (w : World) (hs : Txt s (text z R)) (hn : z + R.length ≤ 1048576) (hR : Dig 58 R) (hR0 : 0 < R.length → R.getD 0 0 ≠ 0) :
    Calls Try.prog 11 #[.string s] w fun e w' => ∃ (g : Nat) (A : List Int), e = .returned (.tuple #[.slice (some ⟨g, 0, none⟩) (z + A.length) (z + A.length), .bool true]) ∧
      w'.ownsRow w.heap.size 5 1 (.slice (some ⟨g, 0, none⟩) (z + A.length) (z + A.length)) (z + A.length) (B8 (List.replicate z 0 ++ A.reverse)) ∧ Dig 256 A ∧ Canon A ∧ V 256 A 0 = V 58 R.reverse 0 ∧ Below w.heap.size w w' := by
  obtain ⟨i0, hi, hz0, hz1, hz2⟩ := info_parts Try.info5
  obtain ⟨hs1, hs2⟩ := hs
  rw [text_len] at hs1
  have Hs1 := hide hs1
  have Hs2 := hide hs2
  have HR0 := hide hR0
  have hsz : s.size ≤ 1048576 := by omega
  have hzs : z ≤ s.size := by omega
  clear hs1 hs2 hR0
  go_enter Try.func11, Try.ntmps11
  go_upto_block 0 with fail
  go_cut [4] (fun zv wc => zv = .int .i64 z ∧ w = wc)
  case first =>
    go_wp2_with fail
    go_loop [4] (fun zv => ∃ o : Nat, zv = .int .i64 o ∧ o ≤ z) (fun zv => z - (intOf zv).toNat)
    case atStart => exact ⟨0, rfl, Nat.zero_le _⟩
    case round =>
      obtain ⟨o, rfl, hoz⟩ := hrel
      by_cases hlt : o < z
      · have hos : o < s.size := by omega
        have hb : ((s[o]'hos).toNat : Int) = 49 := by rw [unhide Hs2 o hos, text_one _ _ _ hlt]
        go_wp2
        go_round
        case rel => exact ⟨o + 1, by go_num, by omega⟩
        case measure => simp [intOf]; omega
      · have hoz2 : o = z := by omega
        subst hoz2
        by_cases hos : o < s.size
        · obtain ⟨x, hx⟩ : ∃ x : Int, x = ((s[o]'hos).toNat : Int) := ⟨_, rfl⟩
          have hne : x ≠ 49 := by
            have hR1 : 0 < R.length := by have := unhide Hs1; omega
            have h := text_digit o R 0 hR1
            have hr := Dig_get hR 0 hR1
            have hr2 := unhide HR0 hR1
            rw [hx, unhide Hs2 o hos]
            rw [Nat.add_zero] at h
            rw [h]
            exact alpha_one (by omega) (by omega)
          have hb : ((s[o]'hos).toNat : Int) = x := hx.symm
          clear hx
          have hb2 : (x == 49) = false := by rw [beq_eq_false_iff_ne]; exact hne
          go_wp2
          go_meet
          case rel => exact ⟨rfl, rfl⟩
        · go_wp2
          go_meet
          case rel => exact ⟨rfl, rfl⟩
  case rest =>
    obtain ⟨rfl, rfl⟩ := hcut
    go_wp2_with (at_make; refine wpList_make_own _ rfl _ _ 22 rfl w.heap.size 5 i0 (.int .u8 0) 1 Try.underlying22 hi hz0 hz1 _ _ _ s.size rfl rfl rfl ?c1 ?c2 ?c3 ?_)
    case c1 => rw [hz2]; omega
    case c2 => unfold maxLen; omega
    case c3 => exact Nat.le_refl _
    intro w1 hown hgrow
    have hbel : Below w.heap.size w w1 := (Below.refl _ _).grown hgrow (Nat.le_refl _) (by simp)
    clear hgrow
    go_wp2_with fail
    go_loopw [5, 6] (fun v i wr => ∃ (k gA cap : Nat) (A : List Int), z ≤ k ∧ k ≤ s.size ∧ i = .int .i64 k ∧ v = .slice (some ⟨gA, 0, none⟩) A.length cap ∧ w.heap.size ≤ gA ∧
        wr.ownsRow w.heap.size 5 1 (.slice (some ⟨gA, 0, none⟩) A.length cap) A.length (B8 A) ∧ Below w.heap.size w wr ∧ Dig 256 A ∧ Canon A ∧ A.length ≤ k - z ∧ V 256 A 0 = V 58 (R.take (k - z)).reverse 0)
      (fun _ i _ => s.size - (intOf i).toNat)
    case atStart => exact ⟨z, w.heap.size, _, [], Nat.le_refl _, hzs, rfl, rfl, Nat.le_refl _, hown, hbel, Dig_nil _, canon_nil, by simp, by simp [V_nil]⟩
    case round =>
      clear hown hbel
      obtain ⟨k, gA, cap, A, hzk, hk, rfl, rfl, hgA, ho, hbe, hA, cA, hlA, hvA⟩ := hrel
      have HvA := hide hvA
      clear hvA
      by_cases hlt : k < s.size
      · have hkR : k - z < R.length := by have := unhide Hs1; omega
        obtain ⟨d, hdd⟩ : ∃ d, d = R.getD (k - z) 0 := ⟨_, rfl⟩
        have hd0 : 0 ≤ d ∧ d < 58 := by rw [hdd]; exact Dig_get hR _ hkR
        obtain ⟨x, hx⟩ : ∃ x : Int, x = ((s[k]'hlt).toNat : Int) := ⟨_, rfl⟩
        have hxd : x = alpha d := by
          have h := text_digit z R (k - z) hkR
          rw [show z + (k - z) = k by omega] at h
          rw [hx, unhide Hs2 k hlt, h, hdd]
        have hb : ((s[k]'hlt).toNat : Int) = x := hx.symm
        have Hdd := hide hdd
        have Hxd := hide hxd
        clear hx hdd hxd
        obtain ⟨hd1, hd2⟩ := hd0
        go_wp2_with (go_at_call 16; refine (digitValue _ d _ hd1 hd2 (unhide Hxd)).mono ?_; rintro e wd ⟨rfl, rfl⟩)
        go_loopw [9, 10] (fun c i wr => ∃ (j : Nat) (L : List Int) (q : Int), j ≤ A.length ∧ i = .int .i64 j ∧ c = .int .i64 q ∧ Inner 256 58 A d L j q ∧ wr.ownsRow w.heap.size 5 1 (.slice (some ⟨gA, 0, none⟩) A.length cap) A.length (B8 L) ∧ Below w.heap.size w wr)
          (fun _ i _ => A.length - (intOf i).toNat)
        case atStart => exact ⟨0, A, d, Nat.zero_le _, rfl, rfl, inner_start hA hd1 hd2, ho, hbe⟩
        case round =>
          clear ho hbe
          obtain ⟨j, L, q, hj, rfl, rfl, hI, ho, hbe⟩ := hrel
          have hq1 := hI.k0
          have hq2 := hI.k1
          by_cases hjl : j < A.length
          · obtain ⟨y, hyy⟩ : ∃ y, y = L.getD j 0 := ⟨_, rfl⟩
            have hce : wr.cell? ⟨gA, j, none⟩ = some (.int .u8 y) := by rw [hyy]; exact own_cell ho hI.len j hjl
            have hfz := ho.frozenAt j
            have hy0 : 0 ≤ y ∧ y < 256 := by rw [hyy]; exact Dig_get hI.dig _ (by rw [hI.len]; exact hjl)
            have Hyy := hide hyy
            clear hyy
            obtain ⟨hy1, hy2⟩ := hy0
            go_wp2
            go_roundw
            case rel =>
              refine ⟨j + 1, L.set j ((q + y * 58) % 256), (q + y * 58) / 256, by omega, by go_num, rfl, ?_, ?_, hbe.setCell hgA _⟩
              · have := inner_step (by omega) (by omega) hI hjl
                rw [← unhide Hyy] at this
                exact this
              · rw [← B8_set]
                exact (ho.stored j _).1
            case measure => simp [intOf]; omega
          · have hjA : j = A.length := by omega
            subst hjA
            have hT := inner_end (by omega) (by omega) hA cA hd1 hI
            have HlL := hide hI.len
            clear hI
            go_wp2_with fail
            go_loopw [5, 9] (fun v c wr => ∃ (gL capL : Nat) (L : List Int) (q : Int), v = .slice (some ⟨gL, 0, none⟩) L.length capL ∧ c = .int .i64 q ∧ w.heap.size ≤ gL ∧ wr.ownsRow w.heap.size 5 1 (.slice (some ⟨gL, 0, none⟩) L.length capL) L.length (B8 L) ∧ Below w.heap.size w wr ∧
                Tail 256 (d + 58 * V 256 A 0) L q ∧ q ≤ 57 ∧ (0 < q → L.length ≤ k - z) ∧ L.length ≤ k - z + 1)
              (fun _ c _ => (intOf c).toNat)
            case atStart => exact ⟨gA, cap, L, q, by rw [unhide HlL], rfl, hgA, by rw [unhide HlL]; exact ho, hbe, hT, by omega, fun _ => by rw [unhide HlL]; exact hlA, by rw [unhide HlL]; omega⟩
            case round =>
              clear ho hbe hT HlL
              obtain ⟨gL, capL, L2, q2, rfl, rfl, hgL, ho, hbe, hT, hq3, hl1, hl3⟩ := hrel
              have hq4 := hT.k0
              by_cases hqp : 0 < q2
              · have hl2' := hl1 hqp
                go_wp2_with (at_builtin; refine wpList_append_own _ rfl _ _ 22 rfl w.heap.size 5 i0 (.int .u8 0) 1 1 Try.underlying22 hi hz0 hz1 hz2 rfl (by decide) _ _ _ rfl (ho.alloc _) ⟨wr.heap.size, 0, none⟩ 1 1 [.int .u8 (q2 % 256)] rfl rfl ?d1 ?d2 ?d3 ?d4 ?d5 ?_)
                case d1 => exact cell_one_new _ _ _
                case d2 => intro u hu; simp at hu; subst hu; rfl
                case d3 => unfold maxLen; omega
                case d4 => omega
                case d5 => have := hbe.size; simp; omega
                intro v' w2 hown' hgrow _
                obtain ⟨g', cap', hv', hg'⟩ := own_shape hown'
                rw [hv'] at hown'
                rw [hv']
                rw [B8_snoc] at hown'
                have hbe2 : Below w.heap.size w w2 := (hbe.alloc hbe.size _).grown hgrow (by have := hbe.size; simp; omega) (by intro b hb; simp [Value.ownBlock] at hb; omega)
                have hT2 := tail_step (by omega) hT hqp
                clear hgrow ho hbe hT hv'
                go_wp2
                go_roundw
                case rel => exact ⟨g', cap', L2 ++ [q2 % 256], q2 / 256, by simp, rfl, hg', by simpa using hown', hbe2, hT2, by omega, fun h => by omega, by simp; omega⟩
                case measure => simp [intOf]; omega
              · have hq20 : q2 = 0 := by omega
                subst hq20
                have HvL := hide hT.val
                have cL := hT.can rfl
                have dL := hT.dig
                clear hT
                go_wp2_with fail
                go_roundw
                case rel =>
                  refine ⟨k + 1, gL, capL, L2, by omega, by omega, by go_num, rfl, hgL, ho, hbe, dL, cL, by omega, ?_⟩
                  rw [unhide HvL, show k + 1 - z = (k - z) + 1 by omega, M58.take_snoc hkR, V_rev_snoc, ← unhide Hdd, unhide HvA]
                case measure => simp [intOf]; omega
      · have hvA : V 256 A 0 = V 58 R.reverse 0 := by
          rw [unhide HvA, List.take_of_length_le (by have := unhide Hs1; omega)]
        have HV := hide hvA
        clear hvA HvA
        go_wp2_with (at_make; refine wpList_make_full _ rfl _ _ 22 rfl w.heap.size 5 i0 (.int .u8 0) 1 Try.underlying22 hi hz0 hz1 _ _ _ _ (z + A.length) rfl rfl (by omega) (by omega) ?e1 ?e2 ?e3 ?_)
        case e1 => rw [hz2]; omega
        case e2 => unfold maxLen; omega
        case e3 => exact hbe.size
        intro w2 hown2 hgrow
        rw [B8_made] at hown2
        have hbe2 : Below w.heap.size w w2 := hbe.grown hgrow hbe.size (by simp)
        have ho2 := ho.kept hgrow (.inr (by simp [Value.ownBlock]))
        have hgAr : gA < wr.heap.size := (ho.lt gA rfl).2
        obtain ⟨gO, hgO⟩ : ∃ gO, gO = wr.heap.size := ⟨_, rfl⟩
        rw [← hgO] at hown2 hgAr ⊢
        have hgOb : w.heap.size ≤ gO := by rw [hgO]; exact hbe.size
        clear hgrow hbe ho hgO
        go_wp2_with fail
        go_loopw [12] (fun i wr => ∃ t : Nat, t ≤ A.length ∧ i = .int .i64 t ∧ wr.ownsRow w.heap.size 5 1 (.slice (some ⟨gO, 0, none⟩) (z + A.length) (z + A.length)) (z + A.length) (B8 (back z A t)) ∧
            wr.ownsRow w.heap.size 5 1 (.slice (some ⟨gA, 0, none⟩) A.length cap) A.length (B8 A) ∧ Below w.heap.size w wr) (fun i _ => A.length - (intOf i).toNat)
        case atStart => exact ⟨0, Nat.zero_le _, rfl, by rw [back_zero]; exact hown2, ho2, hbe2⟩
        case round =>
          clear hown2 ho2 hbe2
          obtain ⟨t, ht, rfl, hO, ho, hbe⟩ := hrel
          by_cases htl : t < A.length
          · obtain ⟨y, hyy⟩ : ∃ y, y = A.getD t 0 := ⟨_, rfl⟩
            have hcd : wr.cell? ⟨gA, t, none⟩ = some (.int .u8 y) := by rw [hyy]; exact own_cell ho rfl t htl
            have Hyy := hide hyy
            clear hyy
            have hfz := hO.frozenAt (z + A.length - 1 - t)
            have hce := own_cell hO (back_len _ _ _ ht) (z + A.length - 1 - t) (by omega)
            go_wp2
            go_roundw
            case rel =>
              refine ⟨t + 1, by omega, by go_num, ?_, ho.kept (hO.stored _ _).2 (.inr (by simp [Value.ownBlock]; omega)), hbe.setCell hgOb _⟩
              have st := (hO.stored (z + A.length - 1 - t) (.int .u8 y)).1
              rw [B8_set, unhide Hyy, back_step _ _ _ htl, ← unhide Hyy] at st
              exact st
            case measure => simp [intOf]; omega
          · have htA : t = A.length := by omega
            subst htA
            rw [back_end] at hO
            go_wp2
            go_ret2
            exact ⟨gO, A, rfl, hO, hA, cA, unhide HV, hbe⟩
end Go.Proofs.Qxb6603022a
