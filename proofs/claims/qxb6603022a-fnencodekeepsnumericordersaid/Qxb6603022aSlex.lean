/- zzShortlexBytes and zzShortlexString, walked. -/
import Derived.Test.Qxb6603022aDec
import Derived.Test.Qxb6603022aMath4
import Derived.Test.Qxb6603022aRd
import Derived.WalkSmall
namespace Go.Proofs.Qxb6603022a
open Go.RowKit Go.WideShapes Go.ChangeShapes Go.ChangeAt
open M58

theorem Rd.shape {w : World} {v : Value} {zs : List Int} (h : Rd w v zs) : ∃ a : Option Addr, v = .slice a zs.length zs.length ∧ ∀ i, i < zs.length → ∃ g, a = some ⟨g, 0, none⟩ ∧ g < w.heap.size ∧ w.cell? ⟨g, i, none⟩ = some (.int .u8 (zs.getD i 0)) := by
  rcases h with ⟨rfl, rfl⟩ | ⟨g, rfl, h2, h3⟩
  · exact ⟨none, rfl, fun i hi => absurd hi (by simp)⟩
  · exact ⟨_, rfl, fun i hi => ⟨g, rfl, h2, h3 i hi⟩⟩

theorem ret_int {k : IntKind} {a b : Int} (h : a = b) : Ending.returned (.int k a) = .returned (.int k b) := by rw [h]

set_option maxRecDepth 100000 in
set_option maxHeartbeats 1000000 in
theorem slexBytes {v1 v2 : Value} {xs ys : List Int} {w : World} (h1 : Rd w v1 xs) (h2 : Rd w v2 ys) (hx : xs.length ≤ 4096) :
    Calls Try.prog 13 #[v1, v2] w fun e w' => e = .returned (.int .i64 (slex xs ys)) ∧ Below w.heap.size w w' := by
  obtain ⟨a1, rfl, hc1⟩ := h1.shape
  obtain ⟨a2, rfl, hc2⟩ := h2.shape
  have Hc1 := hide hc1
  have Hc2 := hide hc2
  clear hc1 hc2 h1 h2
  by_cases hl : xs.length < ys.length
  · have hs : slex xs ys = -1 := by simp [slex, hl]
    have hne : ((xs.length : Int) != (ys.length : Int)) = true := by rw [bne_iff_ne]; omega
    have hli : (xs.length : Int) < (ys.length : Int) := by omega
    rw [hs]
    clear hs
    go_enter Try.func13, Try.ntmps13
    go_wp2
    go_ret
    exact ⟨rfl, Below.refl _ _⟩
  by_cases hg : ys.length < xs.length
  · have hs : slex xs ys = 1 := by simp [slex, hl, hg]
    have hne : ((xs.length : Int) != (ys.length : Int)) = true := by rw [bne_iff_ne]; omega
    have hli : ¬ (xs.length : Int) < (ys.length : Int) := by omega
    rw [hs]
    clear hs
    go_enter Try.func13, Try.ntmps13
    go_wp2
    go_ret
    exact ⟨rfl, Below.refl _ _⟩
  have hs : slex xs ys = lex xs ys := by simp [slex, hl, hg]
  rw [hs]
  have hlen : xs.length = ys.length := by omega
  clear hs hl hg
  obtain ⟨n, hn⟩ : ∃ n, n = xs.length := ⟨_, rfl⟩
  have hn2 : ys.length = n := by omega
  have hn1 : xs.length = n := hn.symm
  rw [hn1, hn2]
  rw [hn1] at Hc1 hx
  rw [hn2] at Hc2
  have Hn1 := hide hn1
  have Hn2 := hide hn2
  clear hn hn1 hn2 hlen
  obtain ⟨r, hr⟩ : ∃ r, r = lex xs ys := ⟨_, rfl⟩
  rw [← hr]
  have Hr := hide hr
  clear hr
  go_enter Try.func13, Try.ntmps13
  go_wp2_with fail
  go_loopw [5] (fun i wr => ∃ k : Nat, k ≤ n ∧ i = .int .i64 k ∧ r = lex (xs.drop k) (ys.drop k) ∧ Below w.heap.size w wr) (fun i _ => n - (intOf i).toNat)
  case atStart => exact ⟨0, Nat.zero_le _, rfl, by simpa using unhide Hr, Below.refl _ _⟩
  case round =>
    obtain ⟨k, hk, rfl, hrk, hbe⟩ := hrel
    have Hrk := hide hrk
    clear hrk
    by_cases hlt : k < n
    · obtain ⟨x, hxx⟩ : ∃ x, x = xs.getD k 0 := ⟨_, rfl⟩
      obtain ⟨y, hyy⟩ : ∃ y, y = ys.getD k 0 := ⟨_, rfl⟩
      obtain ⟨g1, rfl, hg1, hce1⟩ := unhide Hc1 k hlt
      obtain ⟨g2, rfl, hg2, hce2⟩ := unhide Hc2 k hlt
      have hd1 : wr.cell? ⟨g1, k, none⟩ = some (.int .u8 x) := by rw [hxx]; exact (hbe.cell (by exact hg1)).trans hce1
      have hd2 : wr.cell? ⟨g2, k, none⟩ = some (.int .u8 y) := by rw [hyy]; exact (hbe.cell (by exact hg2)).trans hce2
      have hst := lex_drop (x := xs) (y := ys) (k := k) (by rw [unhide Hn1]; exact hlt) (by rw [unhide Hn2]; exact hlt) x y hxx hyy
      have Hst := hide hst
      clear hce1 hce2 hxx hyy hst
      have hki : (k : Int) < (n : Int) := by omega
      by_cases hxy : x = y
      · subst hxy
        have hnx : (x != x) = false := by simp
        go_wp2_with fail
        go_quiet (fail)
        go_wp2
        go_roundw
        case rel => exact ⟨k + 1, by omega, by go_num, by rw [unhide Hrk, unhide Hst]; simp, below_drewN hbe _⟩
        case measure => simp [intOf]; omega
      · have hnx : (x != y) = true := by rw [bne_iff_ne]; exact hxy
        by_cases hxl : x < y
        · go_wp2_with fail
          go_quiet (fail)
          go_wp2_with fail
          go_quiet (fail)
          go_wp2
          go_ret
          exact ⟨ret_int (by rw [unhide Hrk, unhide Hst]; simp [hxl]), below_drewN (below_drewN hbe _) _⟩
        · have hyl : y < x := by omega
          go_wp2_with fail
          go_quiet (fail)
          go_wp2_with fail
          go_quiet (fail)
          go_wp2
          go_ret
          exact ⟨ret_int (by rw [unhide Hrk, unhide Hst]; simp [hxl, hyl]), below_drewN (below_drewN hbe _) _⟩
    · have hkn : k = n := by omega
      subst hkn
      go_wp2
      go_ret
      refine ⟨ret_int ?_, hbe⟩
      have e1 := unhide Hn1
      have e2 := unhide Hn2
      rw [unhide Hrk, List.drop_of_length_le (by omega), List.drop_of_length_le (by omega)]
      rfl

set_option maxRecDepth 100000 in
set_option maxHeartbeats 1000000 in
theorem slexString {s1 s2 : ByteArray} {xs ys : List Int} (w : World) (h1 : Txt s1 xs) (h2 : Txt s2 ys) (hx : xs.length ≤ 1048576) :
    Calls Try.prog 14 #[.string s1, .string s2] w fun e w' => e = .returned (.int .i64 (slex xs ys)) ∧ Below w.heap.size w w' := by
  obtain ⟨hz1, hb1⟩ := h1
  obtain ⟨hz2, hb2⟩ := h2
  have Hb1 := hide hb1
  have Hb2 := hide hb2
  clear hb1 hb2
  by_cases hl : xs.length < ys.length
  · have hs : slex xs ys = -1 := by simp [slex, hl]
    rw [← hz1, ← hz2] at hl
    have hne : ((s1.size : Int) != (s2.size : Int)) = true := by rw [bne_iff_ne]; omega
    have hli : (s1.size : Int) < (s2.size : Int) := by omega
    rw [hs]
    clear hs hz1 hz2
    go_enter Try.func14, Try.ntmps14
    go_wp2
    go_ret
    exact ⟨rfl, Below.refl _ _⟩
  by_cases hg : ys.length < xs.length
  · have hs : slex xs ys = 1 := by simp [slex, hl, hg]
    rw [← hz1, ← hz2] at hl hg
    have hne : ((s1.size : Int) != (s2.size : Int)) = true := by rw [bne_iff_ne]; omega
    have hli : ¬ (s1.size : Int) < (s2.size : Int) := by omega
    rw [hs]
    clear hs hz1 hz2
    go_enter Try.func14, Try.ntmps14
    go_wp2
    go_ret
    exact ⟨rfl, Below.refl _ _⟩
  have hs : slex xs ys = lex xs ys := by simp [slex, hl, hg]
  rw [hs]
  have hle : s1.size ≤ s2.size := by omega
  have hge : s2.size ≤ s1.size := by omega
  have hne : ((s1.size : Int) != (s2.size : Int)) = false := by rw [bne_eq_false_iff_eq]; omega
  have hsz : s1.size ≤ 1048576 := by omega
  clear hs hl hg
  have Hz1 := hide hz1
  have Hz2 := hide hz2
  clear hz1 hz2
  obtain ⟨r, hr⟩ : ∃ r, r = lex xs ys := ⟨_, rfl⟩
  rw [← hr]
  have Hr := hide hr
  clear hr
  go_enter Try.func14, Try.ntmps14
  go_wp2_with fail
  go_loopw [5] (fun i wr => ∃ k : Nat, k ≤ s1.size ∧ i = .int .i64 k ∧ r = lex (xs.drop k) (ys.drop k) ∧ Below w.heap.size w wr) (fun i _ => s1.size - (intOf i).toNat)
  case atStart => exact ⟨0, Nat.zero_le _, rfl, by simpa using unhide Hr, Below.refl _ _⟩
  case round =>
    obtain ⟨k, hk, rfl, hrk, hbe⟩ := hrel
    have Hrk := hide hrk
    clear hrk
    by_cases hlt : k < s1.size
    · have hlt2 : k < s2.size := by omega
      obtain ⟨x, hxx⟩ : ∃ x : Int, x = ((s1[k]'hlt).toNat : Int) := ⟨_, rfl⟩
      obtain ⟨y, hyy⟩ : ∃ y : Int, y = ((s2[k]'hlt2).toNat : Int) := ⟨_, rfl⟩
      have hst := lex_drop (x := xs) (y := ys) (k := k) (by rw [← unhide Hz1]; exact hlt) (by rw [← unhide Hz2]; exact hlt2) x y (hxx.trans (unhide Hb1 k hlt)) (hyy.trans (unhide Hb2 k hlt2))
      have Hst := hide hst
      have hcx : ((s1[k]'hlt).toNat : Int) = x := hxx.symm
      have hcy : ((s2[k]'hlt2).toNat : Int) = y := hyy.symm
      clear hxx hyy hst
      have hki : (k : Int) < (s1.size : Int) := by omega
      have hki2 : (k : Int) < (s2.size : Int) := by omega
      by_cases hxy : x = y
      · subst hxy
        have hnx : (x != x) = false := by simp
        go_wp2_with fail
        go_quiet (fail)
        go_wp2
        go_roundw
        case rel => exact ⟨k + 1, by omega, by go_num, by rw [unhide Hrk, unhide Hst]; simp, below_drewN hbe _⟩
        case measure => simp [intOf]; omega
      · have hnx : (x != y) = true := by rw [bne_iff_ne]; exact hxy
        by_cases hxl : x < y
        · go_wp2_with fail
          go_quiet (fail)
          go_wp2_with fail
          go_quiet (fail)
          go_wp2
          go_ret
          exact ⟨ret_int (by rw [unhide Hrk, unhide Hst]; simp [hxl]), below_drewN (below_drewN hbe _) _⟩
        · have hyl : y < x := by omega
          go_wp2_with fail
          go_quiet (fail)
          go_wp2_with fail
          go_quiet (fail)
          go_wp2
          go_ret
          exact ⟨ret_int (by rw [unhide Hrk, unhide Hst]; simp [hxl, hyl]), below_drewN (below_drewN hbe _) _⟩
    · go_wp2
      go_ret
      refine ⟨ret_int ?_, hbe⟩
      have e1 := unhide Hz1
      have e2 := unhide Hz2
      rw [unhide Hrk, List.drop_of_length_le (by omega), List.drop_of_length_le (by omega)]
      rfl
end Go.Proofs.Qxb6603022a
