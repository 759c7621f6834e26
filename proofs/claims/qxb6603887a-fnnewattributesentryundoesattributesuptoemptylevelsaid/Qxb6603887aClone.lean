/- zzClone and zzSameStrings, walked. -/
import Derived.Test.Qxb6603887aStrs
namespace Go.Proofs.Qxb6603887a
open Go.RowKit Go.WideShapes Go.ChangeShapes Go.ChangeAt

theorem Try.info9 : (Try.prog.info? 9).map (fun i => (i.zero, i.size, i.bytes)) = some (some (.string ⟨#[]⟩), 1, 16) := by kernel_rfl

/-- The strings of a list, as values. -/
def S9 (ss : List ByteArray) : List Value := ss.map Value.string

theorem S9_get (ss : List ByteArray) (i : Nat) (h : i < ss.length) : (S9 ss)[i]? = some (.string (ss.getD i ByteArray.empty)) := by
  simp [S9, List.getD, h]
theorem S9_set (ss : List ByteArray) (i : Nat) (v : ByteArray) : (S9 ss).set i (.string v) = S9 (ss.set i v) := by
  simp [S9, List.map_set]
theorem S9_made (n : Nat) : (madeCells #[Value.string ⟨#[]⟩] n).toList = S9 (List.replicate n ⟨#[]⟩) := by
  simp [toList_madeCells_one, S9]

theorem own_str {w : World} {base g n cap : Nat} {ss : List ByteArray} (h : w.ownsRow base 9 1 (.slice (some ⟨g, 0, none⟩) n cap) n (S9 ss)) (hz : ss.length = n) (i : Nat) (hi : i < n) :
    w.cell? ⟨g, i, none⟩ = some (.string (ss.getD i ByteArray.empty)) := by
  rw [h.cellAt i (by omega), S9_get ss i (by omega)]

theorem take_snocS {l : List ByteArray} {i : Nat} (h : i < l.length) : l.take (i + 1) = l.take i ++ [l.getD i ByteArray.empty] := by
  rw [List.take_succ_eq_append_getElem h]; simp [List.getD, h]

/-- Behind k rounds of the copying. -/
def copied (ss : List ByteArray) (n k : Nat) : List ByteArray := ss.take k ++ List.replicate (n - k) ⟨#[]⟩
theorem copied_len (ss : List ByteArray) (n k : Nat) (hz : n ≤ ss.length) (hk : k ≤ n) : (copied ss n k).length = n := by
  simp [copied]; omega
theorem copied_step (ss : List ByteArray) (n k : Nat) (hz : n ≤ ss.length) (hk : k < n) : (copied ss n k).set k (ss.getD k ByteArray.empty) = copied ss n (k + 1) := by
  unfold copied
  rw [take_snocS (show k < ss.length by omega), show n - k = (n - (k + 1)) + 1 by omega, List.replicate_succ, List.set_append_right _ _ (by simp; omega)]
  have e : k - (ss.take k).length = 0 := by simp; omega
  rw [e, List.set_cons_zero]
  simp

theorem clone_nil (w : World) :
    Calls Try.prog 11 #[.slice none 0 0] w fun e w' => e = .returned (.slice none 0 0) ∧ w = w' := by
  have q27 : ∀ (w : World) (a : Option Addr) (n c n' c' : Nat), (binOp .eql 27 (.slice a n c) (.slice none n' c')).run Try.prog w = .ok (.bool a.isNone) w := fun w a n c n' c' => Lib.run_eql_slice_nil w _ _ a n c n' c' Try.underlying27
  go_enter Try.func11, Try.ntmps11
  go_wp2
  go_ret
  exact ⟨rfl, rfl⟩

theorem cell_block_lt {w : World} {a : Addr} {v : Value} (h : w.cell? a = some v) : a.block < w.heap.size := by
  rcases Nat.lt_or_ge a.block w.heap.size with h1 | h1
  · exact h1
  · simp [World.cell?, Array.getElem?_eq_none h1] at h

set_option maxRecDepth 100000 in
set_option maxHeartbeats 1000000 in
theorem clone_some (a : Addr) (n c : Nat) (ss : List ByteArray) (w : World) (hn : n ≤ 65536) (hz : n ≤ ss.length) (hr : RdS w (some a) n ss) :
    Calls Try.prog 11 #[.slice (some a) n c] w fun e w' => e = .returned (.slice (some ⟨w.heap.size, 0, none⟩) n n) ∧
      w'.ownsRow w.heap.size 9 1 (.slice (some ⟨w.heap.size, 0, none⟩) n n) n (S9 (ss.take n)) ∧ Below w.heap.size w w' := by
  have q27 : ∀ (w : World) (a : Option Addr) (n c n' c' : Nat), (binOp .eql 27 (.slice a n c) (.slice none n' c')).run Try.prog w = .ok (.bool a.isNone) w := fun w a n c n' c' => Lib.run_eql_slice_nil w _ _ a n c n' c' Try.underlying27
  obtain ⟨i0, hi, hz0, hz1, hz2⟩ := info_parts Try.info9
  have Hr := hide' hr
  clear hr
  go_enter Try.func11, Try.ntmps11
  go_wp2_with (at_make; refine wpList_make_full _ rfl _ _ 27 rfl w.heap.size 9 i0 (.string ⟨#[]⟩) 1 Try.underlying27 hi hz0 hz1 _ _ _ _ n rfl rfl rfl rfl ?c1 ?c2 ?c3 ?_)
  case c1 => rw [hz2]; omega
  case c2 => unfold maxLen; omega
  case c3 => exact Nat.le_refl _
  intro w1 hown hgrow
  rw [S9_made] at hown
  have hbel : Below w.heap.size w w1 := (Below.refl _ _).grown hgrow (Nat.le_refl _) (by simp)
  clear hgrow
  go_wp2_with fail
  go_loopw [4] (fun i wr => ∃ k : Nat, k ≤ n ∧ i = .int .i64 k ∧ wr.ownsRow w.heap.size 9 1 (.slice (some ⟨w.heap.size, 0, none⟩) n n) n (S9 (copied ss n k)) ∧ Below w.heap.size w wr) (fun i _ => n - (intOf i).toNat)
  case atStart => exact ⟨0, Nat.zero_le _, rfl, by simpa [copied] using hown, hbel⟩
  case round =>
    clear hown hbel
    obtain ⟨k, hk, rfl, ho, hbe⟩ := hrel
    by_cases hlt : k < n
    · obtain ⟨b, off, hab, hc, _⟩ := unhide' Hr k hlt
      obtain rfl := Option.some.inj hab
      have hb : b < w.heap.size := cell_block_lt hc
      obtain ⟨s, hs⟩ : ∃ s, s = ss.getD k ByteArray.empty := ⟨_, rfl⟩
      have hcx : wr.cell? ⟨b, off + k, none⟩ = some (.string s) := by rw [hs]; exact (hbe.cell (by exact hb)).trans hc
      have Hs := hide' hs
      clear hs hc hab
      have hfz := ho.frozenAt k
      have hce := own_str ho (copied_len ss n k hz hk) k hlt
      go_wp2
      go_roundw
      case rel =>
        refine ⟨k + 1, by omega, by go_num, ?_, hbe.setCell (Nat.le_refl _) _⟩
        rw [← copied_step ss n k hz hlt, ← S9_set, ← unhide' Hs]
        exact (ho.stored k _).1
      case measure => simp [intOf]; omega
    · go_wp2
      go_ret
      have hkn : k = n := by omega
      subst hkn
      exact ⟨rfl, by simpa [copied] using ho, hbe⟩

/-- A slice of strings against itself. -/
theorem same_nil (w : World) :
    Calls Try.prog 14 #[.slice none 0 0, .slice none 0 0] w fun e w' => e = .returned (.bool true) ∧ Below w.heap.size w w' := by
  have q27 : ∀ (w : World) (a : Option Addr) (n c n' c' : Nat), (binOp .eql 27 (.slice a n c) (.slice none n' c')).run Try.prog w = .ok (.bool a.isNone) w := fun w a n c n' c' => Lib.run_eql_slice_nil w _ _ a n c n' c' Try.underlying27
  go_enter Try.func14, Try.ntmps14
  go_wp2_with fail
  refine wp_loop_rounds 1 ?_
  rw [rounds_succ]
  go_wp2
  go_ret
  exact ⟨rfl, Below.refl _ _⟩

set_option maxRecDepth 100000 in
set_option maxHeartbeats 1000000 in
theorem same_some (g n c : Nat) (ss : List ByteArray) (w : World) (hn : n ≤ 65536) (hr : ∀ i, i < n → w.cell? ⟨g, i, none⟩ = some (.string (ss.getD i ByteArray.empty))) :
    Calls Try.prog 14 #[.slice (some ⟨g, 0, none⟩) n c, .slice (some ⟨g, 0, none⟩) n c] w fun e w' => e = .returned (.bool true) ∧ Below w.heap.size w w' := by
  have q27 : ∀ (w : World) (a : Option Addr) (n c n' c' : Nat), (binOp .eql 27 (.slice a n c) (.slice none n' c')).run Try.prog w = .ok (.bool a.isNone) w := fun w a n c n' c' => Lib.run_eql_slice_nil w _ _ a n c n' c' Try.underlying27
  have Hr := hide' hr
  clear hr
  go_enter Try.func14, Try.ntmps14
  go_wp2_with fail
  go_loopw [5] (fun i wr => ∃ k : Nat, k ≤ n ∧ i = .int .i64 k ∧ Below w.heap.size w wr) (fun i _ => n - (intOf i).toNat)
  case atStart => exact ⟨0, Nat.zero_le _, rfl, Below.refl _ _⟩
  case round =>
    obtain ⟨k, hk, rfl, hbe⟩ := hrel
    by_cases hlt : k < n
    · have hc := unhide' Hr k hlt
      have hb : g < w.heap.size := cell_block_lt hc
      obtain ⟨s, hs⟩ : ∃ s, s = ss.getD k ByteArray.empty := ⟨_, rfl⟩
      have hcx : wr.cell? ⟨g, k, none⟩ = some (.string s) := by rw [hs]; exact (hbe.cell (by exact hb)).trans hc
      clear hs hc
      have hki : (k : Int) < (n : Int) := by omega
      go_wp2_with fail
      go_quiet (fail)
      go_wp2
      go_roundw
      case rel => exact ⟨k + 1, by omega, by go_num, below_drewN hbe _⟩
      case measure => simp [intOf]; omega
    · go_wp2
      go_ret
      exact ⟨rfl, hbe⟩
end Go.Proofs.Qxb6603887a
