/- Slices of strings: the size guards, walked. -/
import Derived.Test.Qxb6603887aEntry
import Derived.OpenShut
namespace Go.Proofs.Qxb6603887a
open Go.RowKit Go.WideShapes Go.ChangeShapes Go.ChangeAt

theorem hide' {p : Prop} (h : p) : Hid p := h
theorem unhide' {p : Prop} (h : Hid p) : p := h

/-- It hands back some bool that fits P; the world is as it was. -/
def RetB (w w' : World) (e : Ending) (P : Bool → Prop) : Prop := ∃ b, e = .returned (.bool b) ∧ P b ∧ w = w'
theorem RetB.mk {w : World} {P : Bool → Prop} (b : Bool) (h : P b) : RetB w w (.returned (.bool b)) P := ⟨b, rfl, h, rfl⟩

/-- What the walk is told of a slice of strings that came in: each element's cell, and that the string is no longer than a string can be. -/
def RdS (w : World) (a : Option Addr) (n : Nat) (ss : List ByteArray) : Prop :=
  ∀ i, i < n → ∃ b off, a = some ⟨b, off, none⟩ ∧ w.cell? ⟨b, off + i, none⟩ = some (.string (ss.getD i ByteArray.empty)) ∧ (ss.getD i ByteArray.empty).size ≤ maxLen

set_option maxRecDepth 100000 in
set_option maxHeartbeats 1000000 in
theorem strsBytes (a : Option Addr) (n c : Nat) (ss : List ByteArray) (w : World) (h : RdS w a n ss) (hn : n ≤ 1048576) :
    Calls Try.prog 17 #[.slice a n c] w fun e w' => ∃ r : Int, e = .returned (.int .i64 r) ∧ 0 ≤ r ∧ r ≤ 3000000 ∧ w = w' := by
  have H := hide' h
  clear h
  go_enter Try.func17, Try.ntmps17
  go_wp2_with fail
  go_loop [3, 4] (fun v i => ∃ (q : Int) (k : Nat), v = .int .i64 q ∧ i = .int .i64 k ∧ 0 ≤ q ∧ q ≤ 1048576 ∧ k ≤ n) (fun _ i => n - (intOf i).toNat)
  case atStart => exact ⟨0, 0, rfl, rfl, by omega, by omega, Nat.zero_le _⟩
  case round =>
    obtain ⟨q, k, rfl, rfl, hq1, hq2, hk⟩ := hrel
    by_cases hlt : k < n
    · obtain ⟨b, off, rfl, hc, hm⟩ := unhide' H k hlt
      generalize ss.getD k ByteArray.empty = s at hc hm
      unfold maxLen at hm
      by_cases hb : 1048576 < s.size
      · have hbi : (1048576 : Int) < (s.size : Int) := by omega
        go_wp2
        go_ret
        exact ⟨_, rfl, by omega, by omega, rfl⟩
      · have hbi : ¬ (1048576 : Int) < (s.size : Int) := by omega
        by_cases hs : 1048576 < q + 16 + (s.size : Int)
        · go_wp2
          go_ret
          exact ⟨_, rfl, by omega, by omega, rfl⟩
        · go_wp2
          go_round
          case rel => exact ⟨_, k + 1, rfl, by go_num, by omega, by omega, by omega⟩
          case measure => simp [intOf]; omega
    · go_wp2
      go_ret
      exact ⟨_, rfl, by omega, by omega, rfl⟩

set_option maxRecDepth 100000 in
set_option maxHeartbeats 1000000 in
theorem tooBig10 (nm lv : ByteArray) (pa da : Option Addr) (pn pc dn dc : Nat) (ps ds : List ByteArray) (w : World) (hp : RdS w pa pn ps) (hd : RdS w da dn ds) (h1 : nm.size ≤ maxLen) (h2 : lv.size ≤ maxLen) (h3 : pn ≤ maxLen) (h4 : dn ≤ maxLen) :
    Calls Try.prog 10 #[.string nm, .string lv, .slice pa pn pc, .slice da dn dc] w fun e w' => RetB w w' e (fun b => b = false → pn ≤ 65536 ∧ dn ≤ 65536) := by
  have Hp := hide' hp
  have Hd := hide' hd
  clear hp hd
  unfold maxLen at h1 h2 h3 h4
  by_cases c1 : 1048576 < nm.size
  · have d1 : (1048576 : Int) < (nm.size : Int) := by omega
    go_enter Try.func10, Try.ntmps10
    go_wp2
    go_ret
    exact RetB.mk true (fun h => by simp at h)
  have d1 : ¬ (1048576 : Int) < (nm.size : Int) := by omega
  by_cases c2 : 1048576 < lv.size
  · have d2 : (1048576 : Int) < (lv.size : Int) := by omega
    go_enter Try.func10, Try.ntmps10
    go_wp2
    go_ret
    exact RetB.mk true (fun h => by simp at h)
  have d2 : ¬ (1048576 : Int) < (lv.size : Int) := by omega
  by_cases c3 : 65536 < pn
  · have d3 : (65536 : Int) < (pn : Int) := by omega
    go_enter Try.func10, Try.ntmps10
    go_wp2
    go_ret
    exact RetB.mk true (fun h => by simp at h)
  have d3 : ¬ (65536 : Int) < (pn : Int) := by omega
  by_cases c4 : 65536 < dn
  · have d4 : (65536 : Int) < (dn : Int) := by omega
    go_enter Try.func10, Try.ntmps10
    go_wp2
    go_ret
    exact RetB.mk true (fun h => by simp at h)
  have d4 : ¬ (65536 : Int) < (dn : Int) := by omega
  go_enter Try.func10, Try.ntmps10
  go_wp2_with fail
  refine (strsBytes pa pn pc ps w (unhide' Hp) (by omega)).mono ?_
  rintro e wx ⟨r1, rfl, hr1, hr2, rfl⟩
  go_wp2_with fail
  refine (strsBytes da dn dc ds w (unhide' Hd) (by omega)).mono ?_
  rintro e wx ⟨r2, rfl, hr3, hr4, rfl⟩
  go_wp2
  go_ret
  exact RetB.mk _ (fun _ => ⟨by omega, by omega⟩)

set_option maxRecDepth 100000 in
set_option maxHeartbeats 2000000 in
theorem bytes9 (nm lv : ByteArray)  (pa da : Option Addr) (pn pc dn dc : Nat) (ad ac : Bool) (ps ds : List ByteArray) (w : World) (hp : RdS w pa pn ps) (hd : RdS w da dn ds) (h1 : nm.size ≤ maxLen) (h2 : lv.size ≤ maxLen) (h3 : pn ≤ maxLen) (h4 : dn ≤ maxLen) :
    Calls Try.prog 9 #[.string nm, .string lv, .slice pa pn pc, .slice da dn dc, .bool ad, .bool ac] w fun e w' => RetB w w' e (fun _ => True) := by
  have Hp := hide' hp
  have Hd := hide' hd
  clear hp hd
  unfold maxLen at h1 h2 h3 h4
  by_cases c1 : 1048576 < nm.size
  · have d1 : (1048576 : Int) < (nm.size : Int) := by omega
    go_enter Try.func9, Try.ntmps9
    go_wp2
    go_ret
    exact RetB.mk false trivial
  have d1 : ¬ (1048576 : Int) < (nm.size : Int) := by omega
  by_cases c2 : 1048576 < lv.size
  · have d2 : (1048576 : Int) < (lv.size : Int) := by omega
    go_enter Try.func9, Try.ntmps9
    go_wp2
    go_ret
    exact RetB.mk false trivial
  have d2 : ¬ (1048576 : Int) < (lv.size : Int) := by omega
  by_cases c3 : 1048576 < nm.size + lv.size
  · have d3 : (1048576 : Int) < (nm.size : Int) + (lv.size : Int) := by omega
    go_enter Try.func9, Try.ntmps9
    go_wp2
    go_ret
    exact RetB.mk false trivial
  have d3 : ¬ (1048576 : Int) < (nm.size : Int) + (lv.size : Int) := by omega
  by_cases c4 : 1048576 < pn
  · have d4 : (1048576 : Int) < (pn : Int) := by omega
    go_enter Try.func9, Try.ntmps9
    go_wp2
    go_ret
    exact RetB.mk false trivial
  have d4 : ¬ (1048576 : Int) < (pn : Int) := by omega
  by_cases c5 : 1048576 < nm.size + lv.size + pn
  · have d5 : (1048576 : Int) < (nm.size : Int) + (lv.size : Int) + (pn : Int) := by omega
    go_enter Try.func9, Try.ntmps9
    go_wp2
    go_ret
    exact RetB.mk false trivial
  have d5 : ¬ (1048576 : Int) < (nm.size : Int) + (lv.size : Int) + (pn : Int) := by omega
  go_enter Try.func9, Try.ntmps9
  go_wp2_with fail
  go_loop [13, 14] (fun v i => ∃ (q : Int) (k : Nat), v = .int .i64 q ∧ i = .int .i64 k ∧ 0 ≤ q ∧ q ≤ 1048576 ∧ k ≤ pn) (fun _ i => pn - (intOf i).toNat)
  case atStart => exact ⟨_, 0, rfl, rfl, by omega, by omega, Nat.zero_le _⟩
  case round =>
    obtain ⟨q, k, rfl, rfl, hq1, hq2, hk⟩ := hrel
    by_cases hlt : k < pn
    · obtain ⟨b, off, rfl, hc, hm⟩ := unhide' Hp k hlt
      generalize ps.getD k ByteArray.empty = s at hc hm
      unfold maxLen at hm
      by_cases hb : 1048576 < s.size
      · have hbi : (1048576 : Int) < (s.size : Int) := by omega
        go_wp2
        go_ret
        exact RetB.mk _ trivial
      · have hbi : ¬ (1048576 : Int) < (s.size : Int) := by omega
        by_cases hs : 1048576 < q + (s.size : Int)
        · go_wp2
          go_ret
          exact RetB.mk _ trivial
        · go_wp2
          go_round
          case rel => exact ⟨_, k + 1, rfl, by go_num, by omega, by omega, by omega⟩
          case measure => simp [intOf]; omega
    · by_cases c6 : 1048576 < dn
      · have d6 : (1048576 : Int) < (dn : Int) := by omega
        go_wp2
        go_ret
        exact RetB.mk _ trivial
      have d6 : ¬ (1048576 : Int) < (dn : Int) := by omega
      by_cases c7 : 1048576 < q + (dn : Int)
      · go_wp2
        go_ret
        exact RetB.mk _ trivial
      go_wp2_with fail
      go_loop [13, 15] (fun v i => ∃ (q : Int) (k : Nat), v = .int .i64 q ∧ i = .int .i64 k ∧ 0 ≤ q ∧ q ≤ 1048576 ∧ k ≤ dn) (fun _ i => dn - (intOf i).toNat)
      case atStart => exact ⟨_, 0, rfl, rfl, by omega, by omega, Nat.zero_le _⟩
      case round =>
        obtain ⟨q2, k2, rfl, rfl, hq3, hq4, hk2⟩ := hrel
        by_cases hlt2 : k2 < dn
        · obtain ⟨b, off, rfl, hc, hm⟩ := unhide' Hd k2 hlt2
          generalize ds.getD k2 ByteArray.empty = s at hc hm
          unfold maxLen at hm
          by_cases hb : 1048576 < s.size
          · have hbi : (1048576 : Int) < (s.size : Int) := by omega
            go_wp2
            go_ret
            exact RetB.mk _ trivial
          · have hbi : ¬ (1048576 : Int) < (s.size : Int) := by omega
            by_cases hs : 1048576 < q2 + (s.size : Int)
            · go_wp2
              go_ret
              exact RetB.mk _ trivial
            · go_wp2
              go_round
              case rel => exact ⟨_, k2 + 1, rfl, by go_num, by omega, by omega, by omega⟩
              case measure => simp [intOf]; omega
        · go_wp2
          go_ret
          exact RetB.mk _ trivial

set_option maxRecDepth 100000 in
set_option maxHeartbeats 2000000 in
theorem bytes15 (nm lv : ByteArray) (hl : Bool) (pa da : Option Addr) (pn pc dn dc : Nat) (ad ac : Bool) (ps ds : List ByteArray) (w : World) (hp : RdS w pa pn ps) (hd : RdS w da dn ds) (h1 : nm.size ≤ maxLen) (h2 : lv.size ≤ maxLen) (h3 : pn ≤ maxLen) (h4 : dn ≤ maxLen) :
    Calls Try.prog 15 #[.string nm, .bool hl, .string lv, .slice pa pn pc, .slice da dn dc, .bool ad, .bool ac] w fun e w' => RetB w w' e (fun _ => True) := by
  have Hp := hide' hp
  have Hd := hide' hd
  clear hp hd
  unfold maxLen at h1 h2 h3 h4
  by_cases c1 : 1048576 < nm.size
  · have d1 : (1048576 : Int) < (nm.size : Int) := by omega
    go_enter Try.func15, Try.ntmps15
    go_wp2
    go_ret
    exact RetB.mk false trivial
  have d1 : ¬ (1048576 : Int) < (nm.size : Int) := by omega
  by_cases c2 : 1048576 < lv.size
  · have d2 : (1048576 : Int) < (lv.size : Int) := by omega
    go_enter Try.func15, Try.ntmps15
    go_wp2
    go_ret
    exact RetB.mk false trivial
  have d2 : ¬ (1048576 : Int) < (lv.size : Int) := by omega
  by_cases c3 : 1048576 < nm.size + lv.size
  · have d3 : (1048576 : Int) < (nm.size : Int) + (lv.size : Int) := by omega
    go_enter Try.func15, Try.ntmps15
    go_wp2
    go_ret
    exact RetB.mk false trivial
  have d3 : ¬ (1048576 : Int) < (nm.size : Int) + (lv.size : Int) := by omega
  by_cases c4 : 1048576 < pn
  · have d4 : (1048576 : Int) < (pn : Int) := by omega
    go_enter Try.func15, Try.ntmps15
    go_wp2
    go_ret
    exact RetB.mk false trivial
  have d4 : ¬ (1048576 : Int) < (pn : Int) := by omega
  by_cases c5 : 1048576 < nm.size + lv.size + pn
  · have d5 : (1048576 : Int) < (nm.size : Int) + (lv.size : Int) + (pn : Int) := by omega
    go_enter Try.func15, Try.ntmps15
    go_wp2
    go_ret
    exact RetB.mk false trivial
  have d5 : ¬ (1048576 : Int) < (nm.size : Int) + (lv.size : Int) + (pn : Int) := by omega
  go_enter Try.func15, Try.ntmps15
  go_wp2_with fail
  go_loop [15, 16] (fun v i => ∃ (q : Int) (k : Nat), v = .int .i64 q ∧ i = .int .i64 k ∧ 0 ≤ q ∧ q ≤ 1048576 ∧ k ≤ pn) (fun _ i => pn - (intOf i).toNat)
  case atStart => exact ⟨_, 0, rfl, rfl, by omega, by omega, Nat.zero_le _⟩
  case round =>
    obtain ⟨q, k, rfl, rfl, hq1, hq2, hk⟩ := hrel
    by_cases hlt : k < pn
    · obtain ⟨b, off, rfl, hc, hm⟩ := unhide' Hp k hlt
      generalize ps.getD k ByteArray.empty = s at hc hm
      unfold maxLen at hm
      by_cases hb : 1048576 < s.size
      · have hbi : (1048576 : Int) < (s.size : Int) := by omega
        go_wp2
        go_ret
        exact RetB.mk _ trivial
      · have hbi : ¬ (1048576 : Int) < (s.size : Int) := by omega
        by_cases hs : 1048576 < q + (s.size : Int)
        · go_wp2
          go_ret
          exact RetB.mk _ trivial
        · go_wp2
          go_round
          case rel => exact ⟨_, k + 1, rfl, by go_num, by omega, by omega, by omega⟩
          case measure => simp [intOf]; omega
    · by_cases c6 : 1048576 < dn
      · have d6 : (1048576 : Int) < (dn : Int) := by omega
        go_wp2
        go_ret
        exact RetB.mk _ trivial
      have d6 : ¬ (1048576 : Int) < (dn : Int) := by omega
      by_cases c7 : 1048576 < q + (dn : Int)
      · go_wp2
        go_ret
        exact RetB.mk _ trivial
      go_wp2_with fail
      go_loop [15, 17] (fun v i => ∃ (q : Int) (k : Nat), v = .int .i64 q ∧ i = .int .i64 k ∧ 0 ≤ q ∧ q ≤ 1048576 ∧ k ≤ dn) (fun _ i => dn - (intOf i).toNat)
      case atStart => exact ⟨_, 0, rfl, rfl, by omega, by omega, Nat.zero_le _⟩
      case round =>
        obtain ⟨q2, k2, rfl, rfl, hq3, hq4, hk2⟩ := hrel
        by_cases hlt2 : k2 < dn
        · obtain ⟨b, off, rfl, hc, hm⟩ := unhide' Hd k2 hlt2
          generalize ds.getD k2 ByteArray.empty = s at hc hm
          unfold maxLen at hm
          by_cases hb : 1048576 < s.size
          · have hbi : (1048576 : Int) < (s.size : Int) := by omega
            go_wp2
            go_ret
            exact RetB.mk _ trivial
          · have hbi : ¬ (1048576 : Int) < (s.size : Int) := by omega
            by_cases hs : 1048576 < q2 + (s.size : Int)
            · go_wp2
              go_ret
              exact RetB.mk _ trivial
            · go_wp2
              go_round
              case rel => exact ⟨_, k2 + 1, rfl, by go_num, by omega, by omega, by omega⟩
              case measure => simp [intOf]; omega
        · go_wp2
          go_ret
          exact RetB.mk _ trivial

end Go.Proofs.Qxb6603887a
