/- The size guards, walked. -/
import Derived.Test.Qxb6600865aBase
namespace Go.Proofs.Qxb6600865a
open Go.RowKit Go.WideShapes Go.ChangeShapes Go.ChangeAt

/-- A slice of byte slices that came in: row r is '.slice (A r) (L r) (C r)', its numbers Z r. -/
def IsNeed (w : World) (a : Option Addr) (len cap : Nat) (A : Nat → Option Addr) (L C : Nat → Nat) (Z : Nat → List Int) : Prop :=
  len ≤ maxLen ∧ (a = none → len = 0 ∧ cap = 0) ∧ ∀ r, r < len → ∃ b off, a = some ⟨b, off, none⟩ ∧ w.cell? ⟨b, off + r, none⟩ = some (.slice (A r) (L r) (C r)) ∧ IsRow .u8 w (A r) (L r) (C r) (Z r)

set_option maxRecDepth 100000 in
set_option maxHeartbeats 2000000 in
theorem bytes10 (a : Option Addr) (n c : Nat) (A : Nat → Option Addr) (L C : Nat → Nat) (Z : Nat → List Int) (b : Option Addr) (m d : Nat) (w : World) (h : IsNeed w a n c A L C Z) (hm : m ≤ maxLen) :
    Calls Try.prog 10 #[.slice a n c, .slice b m d] w fun e w' => RetB w w' e (fun _ => True) := by
  obtain ⟨hn, _, hr⟩ := h
  have Hr := hide hr
  clear hr
  unfold maxLen at hn hm
  by_cases c1 : 1048576 < n
  · have d1 : (1048576 : Int) < (n : Int) := by omega
    go_enter Try.func10, Try.ntmps10
    go_wp2
    go_ret
    exact RetB.mk false trivial
  have d1 : ¬ (1048576 : Int) < (n : Int) := by omega
  go_enter Try.func10, Try.ntmps10
  go_wp2_with fail
  go_loop [5, 6] (fun v i => ∃ (q : Int) (k : Nat), v = .int .i64 q ∧ i = .int .i64 k ∧ 0 ≤ q ∧ q ≤ 1048576 ∧ k ≤ n) (fun _ i => n - (intOf i).toNat)
  case atStart => exact ⟨_, 0, rfl, rfl, by omega, by omega, Nat.zero_le _⟩
  case round =>
    obtain ⟨q, k, rfl, rfl, hq1, hq2, hk⟩ := hrel
    by_cases hlt : k < n
    · obtain ⟨bb, off, rfl, hc, hrow⟩ := unhide Hr k hlt
      have hm2 := hrow.len.2
      clear hrow
      generalize L k = l at hc hm2
      generalize A k = ak at hc
      generalize C k = ck at hc
      unfold maxLen at hm2
      by_cases hb : 1048576 < l
      · have hbi : (1048576 : Int) < (l : Int) := by omega
        go_wp2
        go_ret
        exact RetB.mk _ trivial
      · have hbi : ¬ (1048576 : Int) < (l : Int) := by omega
        by_cases hs : 1048576 < q + (l : Int)
        · go_wp2
          go_ret
          exact RetB.mk _ trivial
        · go_wp2
          go_round
          case rel => exact ⟨_, k + 1, rfl, by go_num, by omega, by omega, by omega⟩
          case measure => simp [intOf]; omega
    · by_cases c6 : 1048576 < m
      · have d6 : (1048576 : Int) < (m : Int) := by omega
        go_wp2
        go_ret
        exact RetB.mk _ trivial
      have d6 : ¬ (1048576 : Int) < (m : Int) := by omega
      by_cases c7 : 1048576 < q + (m : Int)
      · go_wp2
        go_ret
        exact RetB.mk _ trivial
      · go_wp2
        go_ret
        exact RetB.mk _ trivial

set_option maxRecDepth 100000 in
set_option maxHeartbeats 2000000 in
theorem tooBig11 (a : Option Addr) (n c : Nat) (A : Nat → Option Addr) (L C : Nat → Nat) (Z : Nat → List Int) (b : Option Addr) (m d : Nat) (w : World) (h : IsNeed w a n c A L C Z) (hm : m ≤ maxLen) :
    Calls Try.prog 11 #[.slice a n c, .slice b m d] w fun e w' => RetB w w' e (fun b => b = false → n ≤ 65536 ∧ m ≤ 1048576 ∧ ∀ r, r < n → L r ≤ 1048576) := by
  obtain ⟨hn, _, hr⟩ := h
  have Hr := hide hr
  clear hr
  unfold maxLen at hn hm
  by_cases c1 : 65536 < n
  · have d1 : (65536 : Int) < (n : Int) := by omega
    go_enter Try.func11, Try.ntmps11
    go_wp2
    go_ret
    exact RetB.mk true (fun h => by simp at h)
  have d1 : ¬ (65536 : Int) < (n : Int) := by omega
  by_cases c2 : 1048576 < m
  · have d2 : (1048576 : Int) < (m : Int) := by omega
    go_enter Try.func11, Try.ntmps11
    go_wp2
    go_ret
    exact RetB.mk true (fun h => by simp at h)
  have d2 : ¬ (1048576 : Int) < (m : Int) := by omega
  by_cases c3 : 1048576 < m + 24 * n
  · have d3 : (1048576 : Int) < (m : Int) + 24 * (n : Int) := by omega
    go_enter Try.func11, Try.ntmps11
    go_wp2
    go_ret
    exact RetB.mk true (fun h => by simp at h)
  have d3 : ¬ (1048576 : Int) < (m : Int) + 24 * (n : Int) := by omega
  go_enter Try.func11, Try.ntmps11
  go_wp2_with fail
  go_loop [5, 6] (fun v i => ∃ (q : Int) (k : Nat), v = .int .i64 q ∧ i = .int .i64 k ∧ 0 ≤ q ∧ q ≤ 1048576 ∧ k ≤ n ∧ ∀ r, r < k → L r ≤ 1048576) (fun _ i => n - (intOf i).toNat)
  case atStart => exact ⟨_, 0, rfl, rfl, by omega, by omega, Nat.zero_le _, fun r hr => absurd hr (by omega)⟩
  case round =>
    obtain ⟨q, k, rfl, rfl, hq1, hq2, hk, hL⟩ := hrel
    have HL := hide hL
    clear hL
    by_cases hlt : k < n
    · obtain ⟨bb, off, rfl, hc, hrow⟩ := unhide Hr k hlt
      have hm2 := hrow.len.2
      clear hrow
      obtain ⟨l, hl⟩ : ∃ l, l = L k := ⟨_, rfl⟩
      rw [← hl] at hc hm2
      have Hl := hide hl
      clear hl
      generalize A k = ak at hc
      generalize C k = ck at hc
      unfold maxLen at hm2
      by_cases hb : 1048576 < l
      · have hbi : (1048576 : Int) < (l : Int) := by omega
        go_wp2
        go_ret
        exact RetB.mk true (fun h => by simp at h)
      · have hbi : ¬ (1048576 : Int) < (l : Int) := by omega
        by_cases hs : 1048576 < q + (l : Int)
        · go_wp2
          go_ret
          exact RetB.mk true (fun h => by simp at h)
        · go_wp2
          go_round
          case rel =>
            refine ⟨_, k + 1, rfl, by go_num, by omega, by omega, by omega, ?_⟩
            intro r hr
            rcases Nat.lt_or_ge r k with h | h
            · exact unhide HL r h
            · have e : r = k := by omega
              subst e
              rw [← unhide Hl]; omega
          case measure => simp [intOf]; omega
    · have hkn : k = n := by omega
      subst hkn
      go_wp2
      go_ret
      exact RetB.mk false (fun _ => ⟨by omega, by omega, unhide HL⟩)
end Go.Proofs.Qxb6600865a
