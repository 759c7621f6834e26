/- The size guards and the clone. -/
import Derived.Test.Qxb6603022aRows
import Derived.Test.Qxb6603022aMath
import Derived.WalkKit
import Derived.ProofKit
import Derived.WalkSpells
namespace Go.Proofs.Qxb6603022a
open Go.RowKit Go.WideShapes Go.ChangeShapes Go.ChangeAt

theorem Try.info5 : (Try.prog.info? 5).map (fun i => (i.zero, i.size, i.bytes)) = some (some (.int .u8 0), 1, 1) := by kernel_rfl

theorem bytes6_yes (a : Option Addr) (len cap : Nat) (w : World) (h : len ≤ 1048576) :
    Calls Try.prog 6 #[.slice a len cap] w fun e w' => e = .returned (.bool true) ∧ w = w' := by
  have h1 : ¬ (1048576 : Int) < (len : Int) := by omega
  go_enter Try.func6, Try.ntmps6
  go_wp2
  go_ret
  exact ⟨rfl, rfl⟩
theorem bytes6_no (a : Option Addr) (len cap : Nat) (w : World) (h : 1048576 < len) :
    Calls Try.prog 6 #[.slice a len cap] w fun e w' => e = .returned (.bool false) ∧ w = w' := by
  have h1 : (1048576 : Int) < (len : Int) := by omega
  go_enter Try.func6, Try.ntmps6
  go_wp2
  go_ret
  exact ⟨rfl, rfl⟩

theorem clone_nil (w : World) :
    Calls Try.prog 7 #[.slice none 0 0] w fun e w' => e = .returned (.slice none 0 0) ∧ w' = w := by
  have q22 : ∀ (w : World) (a : Option Addr) (n c n' c' : Nat), (binOp .eql 22 (.slice a n c) (.slice none n' c')).run Try.prog w = .ok (.bool a.isNone) w := fun w a n c n' c' => Lib.run_eql_slice_nil w _ _ a n c n' c' Try.underlying22
  go_enter Try.func7, Try.ntmps7
  go_wp2
  go_ret
  exact ⟨rfl, rfl⟩

/-- The bytes of a list, as values. -/
def B8 (zs : List Int) : List Value := zs.map (Value.int .u8)

theorem B8_get (zs : List Int) (i : Nat) (h : i < zs.length) : (B8 zs)[i]? = some (.int .u8 (zs.getD i 0)) := by
  simp [B8, List.getD, h]

theorem B8_set (zs : List Int) (i : Nat) (v : Int) : (B8 zs).set i (.int .u8 v) = B8 (zs.set i v) := by
  simp [B8, List.map_set]

theorem B8_made (n : Nat) : (madeCells #[Value.int .u8 0] n).toList = B8 (List.replicate n 0) := by
  simp [toList_madeCells_one, B8]

/-- one cell of an owned row of bytes -/
theorem own_cell {w : World} {base g n cap : Nat} {zs : List Int} (h : w.ownsRow base 5 1 (.slice (some ⟨g, 0, none⟩) n cap) n (B8 zs)) (hz : zs.length = n) (i : Nat) (hi : i < n) :
    w.cell? ⟨g, i, none⟩ = some (.int .u8 (zs.getD i 0)) := by
  rw [h.cellAt i (by omega), B8_get zs i (by omega)]

/-- A cell that reads lies in a block that is there. -/
theorem cell_block_lt {w : World} {a : Addr} {v : Value} (h : w.cell? a = some v) : a.block < w.heap.size := by
  rcases Nat.lt_or_ge a.block w.heap.size with h1 | h1
  · exact h1
  · simp [World.cell?, Array.getElem?_eq_none h1] at h

/-- Behind k rounds of the copying. -/
def copied (zs : List Int) (n k : Nat) : List Int := zs.take k ++ List.replicate (n - k) 0
theorem copied_len (zs : List Int) (n k : Nat) (hz : n ≤ zs.length) (hk : k ≤ n) : (copied zs n k).length = n := by
  simp [copied]; omega
theorem copied_step (zs : List Int) (n k : Nat) (hz : n ≤ zs.length) (hk : k < n) : (copied zs n k).set k (zs.getD k 0) = copied zs n (k + 1) := by
  unfold copied
  rw [M58.take_snoc (show k < zs.length by omega), show n - k = (n - (k + 1)) + 1 by omega, List.replicate_succ, List.set_append_right _ _ (by simp; omega)]
  have e : k - (zs.take k).length = 0 := by simp; omega
  rw [e, List.set_cons_zero]
  simp

set_option maxHeartbeats 400000 in
theorem clone_some (a : Addr) (n c : Nat) (zs : List Int) (w : World) (hn : n ≤ 1048576) (hz : n ≤ zs.length) (hc : ∀ i, i < n → w.cell? (a.add i) = some (.int .u8 (zs.getD i 0))) :
    Calls Try.prog 7 #[.slice (some a) n c] w fun e w' => e = .returned (.slice (some ⟨w.heap.size, 0, none⟩) n n) ∧
      w'.ownsRow w.heap.size 5 1 (.slice (some ⟨w.heap.size, 0, none⟩) n n) n (B8 (zs.take n)) ∧ Below w.heap.size w w' := by
  have q22 : ∀ (w : World) (a : Option Addr) (n c n' c' : Nat), (binOp .eql 22 (.slice a n c) (.slice none n' c')).run Try.prog w = .ok (.bool a.isNone) w := fun w a n c n' c' => Lib.run_eql_slice_nil w _ _ a n c n' c' Try.underlying22
  obtain ⟨i0, hi, hz0, hz1, hz2⟩ := info_parts Try.info5
  go_enter Try.func7, Try.ntmps7
  go_wp2_with (at_make; refine wpList_make_full _ rfl _ _ 22 rfl w.heap.size 5 i0 (.int .u8 0) 1 Try.underlying22 hi hz0 hz1 _ _ _ _ n rfl rfl rfl rfl ?c1 ?c2 ?c3 ?_)
  case c1 => rw [hz2]; omega
  case c2 => unfold maxLen; omega
  case c3 => exact Nat.le_refl _
  intro w1 hown hgrow
  rw [B8_made] at hown
  have hbel : Below w.heap.size w w1 := (Below.refl _ _).grown hgrow (Nat.le_refl _) (by simp)
  clear hgrow
  go_wp2
  go_loopw [4] (fun i wr => ∃ k : Nat, k ≤ n ∧ i = .int .i64 k ∧ wr.ownsRow w.heap.size 5 1 (.slice (some ⟨w.heap.size, 0, none⟩) n n) n (B8 (copied zs n k)) ∧ Below w.heap.size w wr) (fun i _ => n - (intOf i).toNat)
  case atStart => exact ⟨0, Nat.zero_le _, rfl, by simpa [copied] using hown, hbel⟩
  case round =>
    obtain ⟨k, hk, rfl, ho, hbe⟩ := hrel
    by_cases hlt : k < n
    · obtain ⟨b, off, spot⟩ := a
      have hspot : spot = none := by simpa [Addr.add] using World.cell?_spot (hc 0 (by omega))
      subst hspot
      have hb : b < w.heap.size := cell_block_lt (hc 0 (by omega))
      have hcx : wr.cell? ⟨b, off + k, none⟩ = some (.int .u8 (zs.getD k 0)) := (hbe.cell (by exact hb)).trans (by rw [← add_plain]; exact hc k hlt)
      have hfz := ho.frozenAt k
      have hce := own_cell ho (copied_len zs n k hz hk) k hlt
      go_wp2
      go_roundw
      case rel =>
        refine ⟨k + 1, by omega, by go_num, ?_, hbe.setCell (Nat.le_refl _) _⟩
        rw [← copied_step zs n k hz hlt, ← B8_set]
        exact (ho.stored k _).1
      case measure => simp [intOf]; omega
    · go_wp2
      go_ret
      have hkn : k = n := by omega
      subst hkn
      exact ⟨rfl, by simpa [copied] using ho, hbe⟩
end Go.Proofs.Qxb6603022a
