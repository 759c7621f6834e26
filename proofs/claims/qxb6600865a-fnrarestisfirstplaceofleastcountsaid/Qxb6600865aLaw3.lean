/- The law, walked. -/
import Derived.Test.Qxb6600865aLaw
namespace Go.Proofs.Qxb6600865a
open Go.RowKit Go.WideShapes Go.ChangeShapes Go.ChangeAt
open RM

set_option maxRecDepth 100000 in
set_option maxHeartbeats 4000000 in
theorem law3 (a : Option Addr) (n c : Nat) (A : Nat → Option Addr) (L C : Nat → Nat) (Z : Nat → List Int) (b : Option Addr) (m d : Nat) (zs : List Int) (w : World) (hn : IsNeed w a n c A L C Z) (hs : IsRow .u8 w b m d zs) :
    Calls Try.prog 3 #[.slice a n c, .slice b m d] w fun e w' => e = .returned (.bool true) ∧ Below w.heap.size w w' := by
  have Hn := hide hn
  have Hs := hide hs
  have B := hide (bytes10 a n c A L C Z b m d w hn hs.len.2)
  have T := hide (tooBig11 a n c A L C Z b m d w hn hs.len.2)
  clear hn hs
  go_enter Try.func3, Try.ntmps3
  go_wp2_with fail
  refine (unhide B).mono ?_
  rintro e wx ⟨bb, rfl, _, rfl⟩
  cases bb
  case false =>
    go_wp2
    go_ret
    exact ⟨rfl, Below.refl _ _⟩
  case true =>
    go_wp2_with fail
    refine (unhide T).mono ?_
    rintro e wx ⟨bb, rfl, hb, rfl⟩
    cases bb
    case true =>
      go_wp2
      go_ret
      exact ⟨rfl, Below.refl _ _⟩
    case false =>
      obtain ⟨hn1, hm1, hl1⟩ := hb rfl
      clear hb B T
      have Hl := hide hl1
      clear hl1
      go_wp2_with fail
      refine (need_any (unhide Hn) hn1 (unhide Hl)).mono ?_
      rintro e w1 ⟨v, V, rfl, hN1, b1⟩
      have HN1 := hide hN1
      clear hN1
      go_wp2_with fail
      refine (clone_any ((unhide Hs).later b1) hm1).mono ?_
      rintro e w2 ⟨sv, rfl, hS2, b2⟩
      have hN2 := (unhide HN1).later b2
      have dS := (unhide Hs).dig
      have lS : (zs.take m).length ≤ 1048576 := by rw [(unhide Hs).len.1]; exact hm1
      generalize zs.take m = xs at hS2 dS lS
      have hS2' := hS2.lower (Nat.zero_le _)
      generalize hY : (fun r => (Z r).take (L r)) = Y at hN2
      clear hY HN1 hS2 Hn Hs Hl
      have R := hide (zzrarest v sv n V Y xs w2 hN2 hS2' dS lS)
      obtain ⟨p, hp⟩ : ∃ p, p = best (occ xs) (F Y n 0) := ⟨_, rfl⟩
      rw [← hp] at R
      have Hp := hide hp
      have HN2 := hide hN2
      have HS2 := hide hS2'
      have b3 : Below w.heap.size w w2 := b1.trans (b2.mono b1.size)
      clear hp hN2 hS2' b1 b2
      go_wp2_with fail
      refine (unhide R).mono ?_
      rintro e w3 ⟨rfl, b4⟩
      obtain ⟨na, hna, hK, hNr⟩ := (unhide HN2).later b4
      obtain ⟨sa, hsa, hSr⟩ := ((unhide HS2).later b4).shape
      rw [hna, hsa]
      have HN := hide hNr
      have HS := hide hSr
      have b5 : Below w.heap.size w w3 := b3.trans (b4.mono b3.size)
      clear hna hsa hNr hSr b3 b4 R HN2 HS2 hn1 hm1
      have hz29 := zero29
      go_wp2_with fail
      go_loopw [8] (fun i wr => ∃ k : Nat, k ≤ xs.length ∧ i = .int .i64 k ∧ Cnt wr w3.heap.size w3.heap.size (xs.take k) ∧ Below w3.heap.size w3 wr) (fun i _ => xs.length - (intOf i).toNat)
      case atStart => exact ⟨0, Nat.zero_le _, rfl, Cnt.start w3, (Below.refl _ _).alloc (Nat.le_refl _) _⟩
      case round =>
        clear hz29
        obtain ⟨k, hk, rfl, hC, hbe⟩ := hrel
        by_cases hlt : k < xs.length
        · obtain ⟨g, rfl, hg, hc⟩ := unhide HS k hlt
          obtain ⟨x, hx⟩ : ∃ x, x = xs.getD k 0 := ⟨_, rfl⟩
          have hx0 : 0 ≤ x ∧ x < 256 := by rw [hx]; exact Dig_get dS k hlt
          have hcx : wr.cell? ⟨g, k, none⟩ = some (.int .u8 x) := by rw [hx]; exact (hbe.cell (by exact hg)).trans hc
          have Hx := hide hx
          clear hx hc
          obtain ⟨hx1, hx2⟩ := hx0
          have hcc := hC.cell x hx1 hx2
          have hfz := hC.free x.toNat
          have hst := hC.step x hx1 hx2
          have ho1 := occ_nonneg (xs.take k) x
          have ho2 := occ_le (xs.take k) x
          have ho3 : ((xs.take k).length : Int) ≤ k := by have := List.length_take_le k xs; omega
          generalize occ (xs.take k) x = q at hcc hst ho1 ho2
          have ho4 : q ≤ k := by omega
          have Hst := hide hst
          clear hst ho2 ho3
          go_wp2
          go_roundw
          case rel =>
            refine ⟨k + 1, by omega, by go_num, ?_, hbe.setCell (Nat.le_refl _) _⟩
            rw [take_snoc hlt, ← unhide Hx]
            exact unhide Hst
          case measure => simp [intOf]; omega
        · have e : xs.take k = xs := List.take_of_length_le (by omega)
          rw [e] at hC
          clear e
          go_wp2_with fail
          go_loop [9, 10] (fun v9 v10 => ∃ r : Nat, r ≤ n ∧ v10 = .int .i64 r ∧ v9 = .int .i64 (low (occ xs) ((xs.length : Int) + 1) (F Y r 0))) (fun _ i => n - (intOf i).toNat)
          case atStart => exact ⟨0, Nat.zero_le _, rfl, by rw [F_zero]; rfl⟩
          case round =>
            obtain ⟨r, hr, rfl, rfl⟩ := hrel
            by_cases hrl : r < n
            · obtain ⟨g, rfl, hg, hcr, hrd, hdr, hlr⟩ := unhide HN r hrl
              obtain ⟨ar, ha, hcell⟩ := hrd.shape
              have hcx : wr.cell? ⟨g, r, none⟩ = some (.slice ar (Y r).length (Y r).length) := by rw [← ha]; exact (hbe.cell (by exact hg)).trans hcr
              have Hcell := hide hcell
              clear ha hcell hcr hrd
              have hri : (r : Int) < (n : Int) := by omega
              go_wp2_with fail
              go_loop [9, 12] (fun v9 v12 => ∃ j : Nat, j ≤ (Y r).length ∧ v12 = .int .i64 j ∧ v9 = .int .i64 (low (occ xs) ((xs.length : Int) + 1) (F Y r j))) (fun _ i => (Y r).length - (intOf i).toNat)
              case atStart => exact ⟨0, Nat.zero_le _, rfl, rfl⟩
              case round =>
                obtain ⟨j, hj, rfl, rfl⟩ := hrel
                by_cases hjl : j < (Y r).length
                · obtain ⟨ga, hga, hgl, hcb⟩ := unhide Hcell j hjl
                  subst hga
                  obtain ⟨x, hx⟩ : ∃ x, x = (Y r).getD j 0 := ⟨_, rfl⟩
                  have hx0 : 0 ≤ x ∧ x < 256 := by rw [hx]; exact Dig_get hdr j hjl
                  have hcb2 : wr.cell? ⟨ga, j, none⟩ = some (.int .u8 x) := by rw [hx]; exact (hbe.cell (by exact hgl)).trans hcb
                  have hstep := low_snoc (occ xs) ((xs.length : Int) + 1) (F Y r j) (r, j, x)
                  rw [hx, ← F_step, ← hx] at hstep
                  clear hx hcb
                  obtain ⟨hx1, hx2⟩ := hx0
                  have hcc := hC.cell x hx1 hx2
                  simp only [] at hstep
                  obtain ⟨q, hq⟩ : ∃ q, q = occ xs x := ⟨_, rfl⟩
                  rw [← hq] at hcc hstep
                  clear hq
                  generalize low (occ xs) ((xs.length : Int) + 1) (F Y r j) = lo at hstep ⊢
                  have Hstep := hide hstep
                  clear hstep
                  have hji : (j : Int) < ((Y r).length : Int) := by omega
                  by_cases c1 : q < lo
                  · go_wp2
                    go_round
                    case rel => exact ⟨j + 1, by omega, by go_num, by rw [unhide Hstep, if_pos c1]⟩
                    case measure => simp [intOf]; omega
                  · go_wp2
                    go_round
                    case rel => exact ⟨j + 1, by omega, by go_num, by rw [unhide Hstep, if_neg c1]⟩
                    case measure => simp [intOf]; omega
                · have hje : j = (Y r).length := by omega
                  go_wp2_with fail
                  go_round
                  case rel => exact ⟨r + 1, by omega, by go_num, by rw [F_next, ← hje]⟩
                  case measure => simp [intOf]; omega
            · have hrK : r = n := by omega
              subst hrK
              obtain ⟨lo, hlo⟩ : ∃ lo, lo = low (occ xs) ((xs.length : Int) + 1) (F Y r 0) := ⟨_, rfl⟩
              rw [← hlo]
              have Hlo := hide hlo
              clear hlo
              have bfin : Below w.heap.size w wr := b5.trans (hbe.mono b5.size)
              by_cases hgt : (xs.length : Int) < lo
              · have hpn : p = none := by rw [unhide Hp]; exact law_none (S := xs.length) (fun b => occ_le xs b) (by rw [← unhide Hlo]; exact hgt)
                subst hpn
                have e1 : needleOf V none = .slice none 0 0 := rfl
                have e2 : atOf none = 0 := rfl
                rw [e1, e2]
                clear e1 e2
                have q23 : ∀ (w : World) (a : Option Addr) (n c n' c' : Nat), (binOp .eql 23 (.slice a n c) (.slice none n' c')).run Try.prog w = .ok (.bool a.isNone) w := fun w a n c n' c' => Lib.run_eql_slice_nil w _ _ a n c n' c' Try.underlying23
                go_wp2
                go_ret
                exact ⟨rfl, bfin⟩
              · go_wp2_with fail
                go_loop [13] (fun v13 => ∃ t : Nat, t ≤ r ∧ v13 = .int .i64 t ∧ ∀ y ∈ F Y t 0, occ xs y.2.2 ≠ lo) (fun i => r - (intOf i).toNat)
                case atStart => exact ⟨0, Nat.zero_le _, rfl, fun y hy => by rw [F_zero] at hy; simp at hy⟩
                case round =>
                  obtain ⟨t, ht, rfl, hno⟩ := hrel
                  have Hno := hide hno
                  clear hno
                  by_cases htl : t < r
                  · obtain ⟨g, rfl, hg, hcr, hrd, hdr, hlr⟩ := unhide HN t htl
                    obtain ⟨ar, ha, hcell⟩ := hrd.shape
                    have hcx : wr.cell? ⟨g, t, none⟩ = some (.slice ar (Y t).length (Y t).length) := by rw [← ha]; exact (hbe.cell (by exact hg)).trans hcr
                    have Ha := hide ha
                    have Hcell := hide hcell
                    clear ha hcell hcr hrd
                    have hti : (t : Int) < (r : Int) := by omega
                    go_wp2_with fail
                    go_loop [15] (fun v15 => ∃ j : Nat, j ≤ (Y t).length ∧ v15 = .int .i64 j ∧ ∀ y ∈ F Y t j, occ xs y.2.2 ≠ lo) (fun i => (Y t).length - (intOf i).toNat)
                    case atStart => exact ⟨0, Nat.zero_le _, rfl, unhide Hno⟩
                    case round =>
                      clear Hno
                      obtain ⟨j, hj, rfl, hno⟩ := hrel
                      have Hno := hide hno
                      clear hno
                      by_cases hjl : j < (Y t).length
                      · obtain ⟨ga, hga, hgl, hcb⟩ := unhide Hcell j hjl
                        subst hga
                        obtain ⟨x, hx⟩ : ∃ x, x = (Y t).getD j 0 := ⟨_, rfl⟩
                        have hx0 : 0 ≤ x ∧ x < 256 := by rw [hx]; exact Dig_get hdr j hjl
                        have hcb2 : wr.cell? ⟨ga, j, none⟩ = some (.int .u8 x) := by rw [hx]; exact (hbe.cell (by exact hgl)).trans hcb
                        have Hx := hide hx
                        clear hx hcb
                        obtain ⟨hx1, hx2⟩ := hx0
                        have hcc := hC.cell x hx1 hx2
                        obtain ⟨q, hq⟩ : ∃ q, q = occ xs x := ⟨_, rfl⟩
                        rw [← hq] at hcc
                        have Hq := hide hq
                        clear hq
                        have hji : (j : Int) < ((Y t).length : Int) := by omega
                        by_cases c1 : q = lo
                        · have hqb : (q == lo) = true := by rw [beq_iff_eq]; exact c1
                          have hpn : p = some (t, j, x) := by
                            obtain ⟨l2, hl2⟩ := F_split Y htl hjl
                            rw [← unhide Hx] at hl2
                            rw [unhide Hp]
                            refine law_found (S := xs.length) hl2 ?_ ?_
                            · rw [← unhide Hlo]; exact unhide Hno
                            · rw [← unhide Hlo, ← c1, unhide Hq]
                          clear c1
                          subst hpn
                          have e1 : needleOf V (some (t, j, x)) = .slice (some ⟨ga, 0, none⟩) (Y t).length (Y t).length := unhide Ha
                          have e2 : atOf (some (t, j, x)) = (j : Int) := rfl
                          rw [e1, e2]
                          clear e1 e2
                          go_wp2_with fail
                          refine (same_el ga (Y t).length wr (by omega)).mono ?_
                          rintro e w9 ⟨rfl, b9⟩
                          go_wp2
                          go_ret
                          exact ⟨rfl, bfin.trans (b9.mono bfin.size)⟩
                        · have hqb : (q == lo) = false := by rw [beq_eq_false_iff_ne]; exact c1
                          go_wp2
                          go_round
                          case rel =>
                            refine ⟨j + 1, by omega, by go_num, ?_⟩
                            intro y hy
                            rw [F_step] at hy
                            rcases List.mem_append.1 hy with hy | hy
                            · exact unhide Hno y hy
                            · have hy2 : y = (t, j, (Y t).getD j 0) := by simpa using hy
                              rw [hy2, ← unhide Hx]
                              show occ xs x ≠ lo
                              rw [← unhide Hq]; exact c1
                          case measure => simp [intOf]; omega
                      · have hje : j = (Y t).length := by omega
                        go_wp2_with fail
                        go_round
                        case rel => exact ⟨t + 1, by omega, by go_num, by rw [F_next, ← hje]; exact unhide Hno⟩
                        case measure => simp [intOf]; omega
                  · exfalso
                    have htr : t = r := by omega
                    subst htr
                    obtain ⟨y, hy, hy2⟩ := law_must (f := occ xs) (S := xs.length) (l := F Y t 0) (by rw [← unhide Hlo]; omega)
                    exact unhide Hno y hy (by rw [hy2]; exact (unhide Hlo).symm)
end Go.Proofs.Qxb6600865a
