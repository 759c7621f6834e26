/- rarest, walked. -/
import Derived.Test.Qxb6600865aNeed
import Derived.Test.Qxb6600865aRMath
namespace Go.Proofs.Qxb6600865a
open Go.RowKit Go.WideShapes Go.ChangeShapes Go.ChangeAt
open RM

/-- The numbers of a list, as values. -/
def I64 (zs : List Int) : List Value := zs.map (Value.int .i64)
theorem I64_get (zs : List Int) (i : Nat) (h : i < zs.length) : (I64 zs)[i]? = some (.int .i64 (zs.getD i 0)) := by
  simp [I64, List.getD, h]
theorem I64_set (zs : List Int) (i : Nat) (v : Int) : (I64 zs).set i (.int .i64 v) = I64 (zs.set i v) := by
  simp [I64, List.map_set]

/-- A new array of counts. -/
def Z256 : Array Value := Array.replicate 256 (.int .i64 0)
theorem zero29 (w : World) : (zeroValue 29).run Try.prog w = .ok (.agg Z256) w := by kernel_rfl
theorem Z256_list : Z256.toList = I64 (List.replicate 256 0) := by unfold Z256 I64; rw [Array.toList_replicate, List.map_replicate]
theorem Z256_size : Z256.size = 256 := by unfold Z256; rw [Array.size_replicate]

/-- The needle that was chosen. -/
def needleOf (V : Nat → Value) : Option (Nat × Nat × Int) → Value
  | none => .slice none 0 0
  | some b => V b.1

/-- The table of counts lies at block g. -/
def Cnt (w : World) (base g : Nat) (xs : List Int) : Prop :=
  ∃ cs, w.ownsRow base 29 1 (.slice (some ⟨g, 0, none⟩) 256 256) 256 (I64 cs) ∧ Tab cs xs

theorem Cnt.cell {w : World} {base g : Nat} {xs : List Int} (h : Cnt w base g xs) (x : Int) (h0 : 0 ≤ x) (h1 : x < 256) : w.cell? ⟨g, x.toNat, none⟩ = some (.int .i64 (occ xs x)) := by
  obtain ⟨cs, ho, ht⟩ := h
  rw [ho.cellAt x.toNat (by omega), I64_get cs x.toNat (by rw [ht.1]; omega), ht.2 x h0 h1]
theorem Cnt.free {w : World} {base g : Nat} {xs : List Int} (h : Cnt w base g xs) (j : Nat) : w.frozen? ⟨g, j, none⟩ = false := by
  obtain ⟨cs, ho, ht⟩ := h
  exact ho.frozenAt j
theorem Cnt.step {w : World} {base g : Nat} {xs : List Int} (h : Cnt w base g xs) (x : Int) (h0 : 0 ≤ x) (h1 : x < 256) : Cnt (w.setCell ⟨g, x.toNat, none⟩ (.int .i64 (occ xs x + 1))) base g (xs ++ [x]) := by
  obtain ⟨cs, ho, ht⟩ := h
  refine ⟨cs.set x.toNat (occ xs x + 1), ?_, ?_⟩
  · rw [← I64_set]; exact (ho.stored x.toNat _).1
  · rw [← ht.2 x h0 h1]; exact tab_step ht h0 h1
theorem Cnt.later {w w' : World} {B base g : Nat} {xs : List Int} (h : Cnt w base g xs) (hb : Below B w w') (hg : g < B) : Cnt w' base g xs := by
  obtain ⟨cs, ho, ht⟩ := h
  exact ⟨cs, own_below ho hb hg, ht⟩
theorem Cnt.start (w : World) : Cnt (w.alloc (.cells Z256 29)) w.heap.size w.heap.size [] := by
  refine ⟨List.replicate 256 0, ?_, tab_zero⟩
  rw [← Z256_list]
  exact World.ownsRow_lit w Z256 256 (Nat.le_refl _) (by unfold maxLen; omega) (by rw [Z256_size])
theorem Cnt.lt {w : World} {base g : Nat} {xs : List Int} (h : Cnt w base g xs) : g < w.heap.size := by
  obtain ⟨cs, ho, ht⟩ := h
  exact (ho.lt g rfl).2

set_option maxRecDepth 100000 in
set_option maxHeartbeats 2000000 in
theorem rarest_any (v sv : Value) (K : Nat) (V : Nat → Value) (Y : Nat → List Int) (xs : List Int) (w : World) (hN : Nd w v K V Y) (hS : Rd 0 w sv xs) (dS : Dig xs) (lS : xs.length ≤ 1048576) :
    Calls Try.prog 29 #[v, sv] w fun e w' => e = .returned (.tuple #[needleOf V (best (occ xs) (F Y K 0)), .int .i64 (atOf (best (occ xs) (F Y K 0)))]) ∧ Below w.heap.size w w' := by
  obtain ⟨av, rfl, hK, hNr⟩ := hN
  obtain ⟨sa, rfl, hSr⟩ := hS.shape
  have HN := hide hNr
  have HS := hide hSr
  clear hNr hSr hS
  have hz29 := zero29
  go_enter Try.func29, Try.ntmps29
  go_wp2_with fail
  go_loopw [16] (fun i wr => ∃ k : Nat, k ≤ xs.length ∧ i = .int .i64 k ∧ Cnt wr w.heap.size w.heap.size (xs.take k) ∧ Below w.heap.size w wr) (fun i _ => xs.length - (intOf i).toNat)
  case atStart => exact ⟨0, Nat.zero_le _, rfl, Cnt.start w, (Below.refl _ _).alloc (Nat.le_refl _) _⟩
  case round =>
    clear hz29
    obtain ⟨k, hk, rfl, hC, hbe⟩ := hrel
    by_cases hlt : k < xs.length
    · obtain ⟨g, rfl, hg, hc⟩ := unhide HS k hlt
      obtain ⟨x, hx⟩ : ∃ x, x = xs.getD k 0 := ⟨_, rfl⟩
      have hx0 : 0 ≤ x ∧ x < 256 := by rw [hx]; exact Dig_get dS k hlt
      have hcx : wr.cell? ⟨g, k, none⟩ = some (.int .u8 x) := by rw [hx]; exact (hbe.cell (by exact hg)).trans hc
      have Hx := hide hx
      clear hx hc
      obtain ⟨hx1, hx2⟩ := hx0
      have hcc := hC.cell x hx1 hx2
      have hfz := hC.free x.toNat
      have hst := hC.step x hx1 hx2
      have ho1 := occ_nonneg (xs.take k) x
      have ho2 := occ_le (xs.take k) x
      have ho3 : ((xs.take k).length : Int) ≤ k := by have := List.length_take_le k xs; omega
      generalize occ (xs.take k) x = q at *
      have ho4 : q ≤ k := by omega
      have Hst := hide hst
      clear hst ho2 ho3
      go_wp2
      go_roundw
      case rel =>
        refine ⟨k + 1, by omega, by go_num, ?_, hbe.setCell (Nat.le_refl _) _⟩
        rw [take_snoc hlt, ← unhide Hx]
        exact unhide Hst
      case measure => simp [intOf]; omega
    · have e : xs.take k = xs := List.take_of_length_le (by omega)
      rw [e] at hC
      clear e
      have hgt := hC.lt
      go_wp2_with fail
      go_loopw [4, 5, 9, 28] (fun v4 v5 v9 i wr => ∃ (r : Nat) (p : Option (Nat × Nat × Int)), r ≤ K ∧ i = .int .i64 r ∧ p = best (occ xs) (F Y r 0) ∧ v4 = needleOf V p ∧ v5 = .int .i64 (atOf p) ∧ v9 = .int .i64 (RM.leastOf (occ xs) p) ∧
          Cnt wr w.heap.size w.heap.size xs ∧ Below w.heap.size w wr) (fun _ _ _ i _ => K - (intOf i).toNat)
      case atStart => exact ⟨0, none, Nat.zero_le _, rfl, by rw [F_zero]; rfl, rfl, rfl, rfl, hC, hbe⟩
      case round =>
        clear hC hbe hgt
        obtain ⟨r, p, hr, rfl, hp, rfl, rfl, rfl, hC, hbe⟩ := hrel
        have Hp := hide hp
        clear hp
        by_cases hrl : r < K
        · obtain ⟨g, rfl, hg, hcr, hrd, hdr, hlr⟩ := unhide HN r hrl
          obtain ⟨a, ha, hcell⟩ := hrd.shape
          have hcx : wr.cell? ⟨g, r, none⟩ = some (.slice a (Y r).length (Y r).length) := by rw [← ha]; exact (hbe.cell (by exact hg)).trans hcr
          have Ha := hide ha
          have Hcell := hide hcell
          clear ha hcell hcr hrd
          have hri : (r : Int) < (K : Int) := by omega
          go_wp2_with fail
          go_loopw [4, 5, 9, 34] (fun v4 v5 v9 i wr => ∃ (j : Nat) (p : Option (Nat × Nat × Int)), j ≤ (Y r).length ∧ i = .int .i64 j ∧ p = best (occ xs) (F Y r j) ∧ v4 = needleOf V p ∧ v5 = .int .i64 (atOf p) ∧ v9 = .int .i64 (RM.leastOf (occ xs) p) ∧
              Cnt wr w.heap.size w.heap.size xs ∧ Below w.heap.size w wr) (fun _ _ _ i _ => (Y r).length - (intOf i).toNat)
          case atStart => exact ⟨0, p, Nat.zero_le _, rfl, unhide Hp, rfl, rfl, rfl, hC, hbe⟩
          case round =>
            clear hC hbe Hp hcx
            obtain ⟨j, p, hj, rfl, hp, rfl, rfl, rfl, hC, hbe⟩ := hrel
            have Hp := hide hp
            clear hp
            by_cases hjl : j < (Y r).length
            · obtain ⟨ga, hga, hgl, hcb⟩ := unhide Hcell j hjl
              subst hga
              obtain ⟨x, hx⟩ : ∃ x, x = (Y r).getD j 0 := ⟨_, rfl⟩
              have hx0 : 0 ≤ x ∧ x < 256 := by rw [hx]; exact Dig_get hdr j hjl
              have hcx : wr.cell? ⟨ga, j, none⟩ = some (.int .u8 x) := by rw [hx]; exact (hbe.cell (by exact hgl)).trans hcb
              have Hx := hide hx
              clear hx hcb
              obtain ⟨hx1, hx2⟩ := hx0
              have hcc := hC.cell x hx1 hx2
              have hgt := hC.lt
              obtain ⟨q, hq⟩ : ∃ q, q = occ xs x := ⟨_, rfl⟩
              rw [← hq] at hcc
              have Hq := hide hq
              clear hq
              obtain ⟨L, hL⟩ : ∃ L, L = RM.leastOf (occ xs) p := ⟨_, rfl⟩
              rw [← hL]
              have HL := hide hL
              clear hL
              have hstep : best (occ xs) (F Y r (j + 1)) = upd (occ xs) p (r, j, x) := by rw [F_step, best_snoc, ← unhide Hp, ← unhide Hx]
              have Hstep := hide hstep
              clear hstep
              have hji : (j : Int) < ((Y r).length : Int) := by omega
              by_cases c1 : L < 0
              · have hu : upd (occ xs) p (r, j, x) = some (r, j, x) := upd_lt (.inl (by rw [← unhide HL]; exact c1)) (occ_nonneg xs)
                have Hu := hide hu
                clear hu
                go_wp2_with fail
                go_quiet (fail)
                go_wp2
                go_roundw
                case rel => exact ⟨j + 1, some (r, j, x), by omega, by go_num, by rw [unhide Hstep, unhide Hu], (unhide Ha).symm, rfl, by rw [unhide Hq]; rfl, hC.later (below_drewN (Below.refl wr.heap.size wr) _) hgt, below_drewN hbe _⟩
                case measure => simp [intOf]; omega
              · by_cases c2 : q < L
                · have hu : upd (occ xs) p (r, j, x) = some (r, j, x) := upd_lt (.inr (by rw [← unhide HL, ← unhide Hq]; exact c2)) (occ_nonneg xs)
                  have Hu := hide hu
                  clear hu
                  go_wp2_with fail
                  go_quiet (fail)
                  go_wp2
                  go_roundw
                  case rel => exact ⟨j + 1, some (r, j, x), by omega, by go_num, by rw [unhide Hstep, unhide Hu], (unhide Ha).symm, rfl, by rw [unhide Hq]; rfl, hC.later (below_drewN (Below.refl wr.heap.size wr) _) hgt, below_drewN hbe _⟩
                  case measure => simp [intOf]; omega
                · have hu : upd (occ xs) p (r, j, x) = p := upd_ge (by rw [← unhide HL]; exact c1) (by rw [← unhide HL, ← unhide Hq]; exact c2)
                  have Hu := hide hu
                  clear hu
                  go_wp2
                  go_roundw
                  case rel => exact ⟨j + 1, p, by omega, by go_num, by rw [unhide Hstep, unhide Hu], rfl, rfl, by rw [unhide HL], hC, hbe⟩
                  case measure => simp [intOf]; omega
            · have hje : j = (Y r).length := by omega
              go_wp2_with fail
              go_roundw
              case rel => exact ⟨r + 1, p, by omega, by go_num, by rw [F_next, ← hje]; exact unhide Hp, rfl, rfl, rfl, hC, hbe⟩
              case measure => simp [intOf]; omega
        · have hrK : r = K := by omega
          subst hrK
          go_wp2
          go_ret2
          exact ⟨by rw [← unhide Hp]; rfl, hbe⟩
end Go.Proofs.Qxb6600865a
