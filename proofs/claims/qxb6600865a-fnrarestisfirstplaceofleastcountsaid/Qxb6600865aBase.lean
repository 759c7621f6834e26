/- Byte slices: what came in, what is held, and the clone. -/
import Derived.Test.Qxb6600865aRows
import Derived.WalkKit
import Derived.ProofKit
import Derived.WalkSpells
import Derived.OpenShut
import Derived.Deep.DeepCutAuto
import Derived.Deep.CutBlock
import Derived.Deep.QuietTactic
import Derived.BigQuiet
import Derived.WalkSmall
namespace Go.Proofs.Qxb6600865a
open Go.RowKit Go.WideShapes Go.ChangeShapes Go.ChangeAt

theorem hide {p : Prop} (h : p) : Hid p := h
theorem unhide {p : Prop} (h : Hid p) : p := h

theorem Try.info5 : (Try.prog.info? 5).map (fun i => (i.zero, i.size, i.bytes)) = some (some (.int .u8 0), 1, 1) := by kernel_rfl

theorem clone_nil (w : World) :
    Calls Try.prog 13 #[.slice none 0 0] w fun e w' => e = .returned (.slice none 0 0) ∧ w' = w := by
  have q23 : ∀ (w : World) (a : Option Addr) (n c n' c' : Nat), (binOp .eql 23 (.slice a n c) (.slice none n' c')).run Try.prog w = .ok (.bool a.isNone) w := fun w a n c n' c' => Lib.run_eql_slice_nil w _ _ a n c n' c' Try.underlying23
  go_enter Try.func13, Try.ntmps13
  go_wp2
  go_ret
  exact ⟨rfl, rfl⟩

/-- The bytes of a list, as values. -/
def B8 (zs : List Int) : List Value := zs.map (Value.int .u8)

theorem B8_get (zs : List Int) (i : Nat) (h : i < zs.length) : (B8 zs)[i]? = some (.int .u8 (zs.getD i 0)) := by
  simp [B8, List.getD, h]

theorem B8_set (zs : List Int) (i : Nat) (v : Int) : (B8 zs).set i (.int .u8 v) = B8 (zs.set i v) := by
  simp [B8, List.map_set]

theorem B8_made (n : Nat) : (madeCells #[Value.int .u8 0] n).toList = B8 (List.replicate n 0) := by
  simp [toList_madeCells_one, B8]

/-- one cell of an owned row of bytes -/
theorem own_cell {w : World} {base g n cap : Nat} {zs : List Int} (h : w.ownsRow base 5 1 (.slice (some ⟨g, 0, none⟩) n cap) n (B8 zs)) (hz : zs.length = n) (i : Nat) (hi : i < n) :
    w.cell? ⟨g, i, none⟩ = some (.int .u8 (zs.getD i 0)) := by
  rw [h.cellAt i (by omega), B8_get zs i (by omega)]

/-- A cell that reads lies in a block that is there. -/
theorem cell_block_lt {w : World} {a : Addr} {v : Value} (h : w.cell? a = some v) : a.block < w.heap.size := by
  rcases Nat.lt_or_ge a.block w.heap.size with h1 | h1
  · exact h1
  · simp [World.cell?, Array.getElem?_eq_none h1] at h

theorem take_snoc {l : List Int} {i : Nat} (h : i < l.length) : l.take (i + 1) = l.take i ++ [l.getD i 0] := by
  rw [List.take_succ_eq_append_getElem h]; simp [List.getD, h]

/-- Behind k rounds of the copying. -/
def copied (zs : List Int) (n k : Nat) : List Int := zs.take k ++ List.replicate (n - k) 0
theorem copied_len (zs : List Int) (n k : Nat) (hz : n ≤ zs.length) (hk : k ≤ n) : (copied zs n k).length = n := by
  simp [copied]; omega
theorem copied_step (zs : List Int) (n k : Nat) (hz : n ≤ zs.length) (hk : k < n) : (copied zs n k).set k (zs.getD k 0) = copied zs n (k + 1) := by
  unfold copied
  rw [take_snoc (show k < zs.length by omega), show n - k = (n - (k + 1)) + 1 by omega, List.replicate_succ, List.set_append_right _ _ (by simp; omega)]
  have e : k - (zs.take k).length = 0 := by simp; omega
  rw [e, List.set_cons_zero]
  simp

set_option maxHeartbeats 400000 in
theorem clone_some (a : Addr) (n c : Nat) (zs : List Int) (w : World) (hn : n ≤ 1048576) (hz : n ≤ zs.length) (hc : ∀ i, i < n → w.cell? (a.add i) = some (.int .u8 (zs.getD i 0))) :
    Calls Try.prog 13 #[.slice (some a) n c] w fun e w' => e = .returned (.slice (some ⟨w.heap.size, 0, none⟩) n n) ∧
      w'.ownsRow w.heap.size 5 1 (.slice (some ⟨w.heap.size, 0, none⟩) n n) n (B8 (zs.take n)) ∧ Below w.heap.size w w' := by
  have q23 : ∀ (w : World) (a : Option Addr) (n c n' c' : Nat), (binOp .eql 23 (.slice a n c) (.slice none n' c')).run Try.prog w = .ok (.bool a.isNone) w := fun w a n c n' c' => Lib.run_eql_slice_nil w _ _ a n c n' c' Try.underlying23
  obtain ⟨i0, hi, hz0, hz1, hz2⟩ := info_parts Try.info5
  go_enter Try.func13, Try.ntmps13
  go_wp2_with (at_make; refine wpList_make_full _ rfl _ _ 23 rfl w.heap.size 5 i0 (.int .u8 0) 1 Try.underlying23 hi hz0 hz1 _ _ _ _ n rfl rfl rfl rfl ?c1 ?c2 ?c3 ?_)
  case c1 => rw [hz2]; omega
  case c2 => unfold maxLen; omega
  case c3 => exact Nat.le_refl _
  intro w1 hown hgrow
  rw [B8_made] at hown
  have hbel : Below w.heap.size w w1 := (Below.refl _ _).grown hgrow (Nat.le_refl _) (by simp)
  clear hgrow
  go_wp2
  go_loopw [4] (fun i wr => ∃ k : Nat, k ≤ n ∧ i = .int .i64 k ∧ wr.ownsRow w.heap.size 5 1 (.slice (some ⟨w.heap.size, 0, none⟩) n n) n (B8 (copied zs n k)) ∧ Below w.heap.size w wr) (fun i _ => n - (intOf i).toNat)
  case atStart => exact ⟨0, Nat.zero_le _, rfl, by simpa [copied] using hown, hbel⟩
  case round =>
    obtain ⟨k, hk, rfl, ho, hbe⟩ := hrel
    by_cases hlt : k < n
    · obtain ⟨b, off, spot⟩ := a
      have hspot : spot = none := by simpa [Addr.add] using World.cell?_spot (hc 0 (by omega))
      subst hspot
      have hb : b < w.heap.size := cell_block_lt (hc 0 (by omega))
      have hcx : wr.cell? ⟨b, off + k, none⟩ = some (.int .u8 (zs.getD k 0)) := (hbe.cell (by exact hb)).trans (by rw [← add_plain]; exact hc k hlt)
      have hfz := ho.frozenAt k
      have hce := own_cell ho (copied_len zs n k hz hk) k hlt
      go_wp2
      go_roundw
      case rel =>
        refine ⟨k + 1, by omega, by go_num, ?_, hbe.setCell (Nat.le_refl _) _⟩
        rw [← copied_step zs n k hz hlt, ← B8_set]
        exact (ho.stored k _).1
      case measure => simp [intOf]; omega
    · go_wp2
      go_ret
      have hkn : k = n := by omega
      subst hkn
      exact ⟨rfl, by simpa [copied] using ho, hbe⟩

/-- Every byte lies in range. -/
def Dig (l : List Int) : Prop := ∀ d ∈ l, 0 ≤ d ∧ d < 256
theorem Dig_get {l : List Int} (h : Dig l) (k : Nat) (hk : k < l.length) : 0 ≤ l.getD k 0 ∧ l.getD k 0 < 256 := by
  have e : l.getD k 0 = l[k] := by simp [List.getD, hk]
  rw [e]; exact h _ (List.getElem_mem hk)

/-- WHAT THE WALK IS TOLD OF A SLICE OF INTEGERS THAT CAME IN: it is nil; or it leads to a row of 'cap' cells, the numbers 'zs' (the first 'len' are its elements, the rest its spare room), each fitting its kind. -/
def IsRow (k : IntKind) (w : World) (a : Option Addr) (len cap : Nat) (zs : List Int) : Prop :=
  (a = none ∧ len = 0 ∧ cap = 0 ∧ zs = []) ∨
  ∃ x, a = some x ∧ len ≤ cap ∧ cap ≤ maxLen ∧ zs.length = cap ∧ (∀ i, i < zs.length → w.cell? (x.add i) = some (.int k (zs.getD i 0))) ∧ ∀ n ∈ zs, (Lit.int k n).wf = true

theorem IsRow.dig {w : World} {a : Option Addr} {len cap : Nat} {zs : List Int} (h : IsRow .u8 w a len cap zs) : Dig (zs.take len) := by
  rcases h with ⟨rfl, rfl, rfl, rfl⟩ | ⟨x, rfl, h1, h2, h3, h4, h5⟩
  · intro d hd; simp at hd
  · intro d hd
    have := bounds_u8 (h5 d (List.mem_of_mem_take hd))
    omega

theorem IsRow.len {w : World} {a : Option Addr} {len cap : Nat} {zs : List Int} (h : IsRow .u8 w a len cap zs) : (zs.take len).length = len ∧ len ≤ maxLen := by
  rcases h with ⟨rfl, rfl, rfl, rfl⟩ | ⟨x, rfl, h1, h2, h3, h4, h5⟩
  · exact ⟨rfl, Nat.zero_le _⟩
  · exact ⟨by simp; omega, by omega⟩

theorem IsRow.later {w w' : World} {k : IntKind} {a : Option Addr} {len cap : Nat} {zs : List Int} (h : IsRow k w a len cap zs) (hb : Below w.heap.size w w') : IsRow k w' a len cap zs := by
  rcases h with h | ⟨x, rfl, h1, h2, h3, h4, h5⟩
  · exact .inl h
  · exact .inr ⟨x, rfl, h1, h2, h3, fun i hi => (hb.cell (cell_block_lt (h4 i hi))).trans (h4 i hi), h5⟩

/-- A byte slice that the law itself holds: v reads as the bytes zs; it lies from block 'lo' on. -/
def Rd (lo : Nat) (w : World) (v : Value) (zs : List Int) : Prop :=
  (v = .slice none 0 0 ∧ zs = []) ∨ ∃ g, v = .slice (some ⟨g, 0, none⟩) zs.length zs.length ∧ lo ≤ g ∧ g < w.heap.size ∧ ∀ i, i < zs.length → w.cell? ⟨g, i, none⟩ = some (.int .u8 (zs.getD i 0))

theorem Rd.later {lo : Nat} {w w' : World} {v : Value} {zs : List Int} (h : Rd lo w v zs) (hb : Below w.heap.size w w') : Rd lo w' v zs := by
  rcases h with h | ⟨g, h1, h0, h2, h3⟩
  · exact .inl h
  · exact .inr ⟨g, h1, h0, Nat.lt_of_lt_of_le h2 hb.size, fun i hi => (hb.cell (by exact h2)).trans (h3 i hi)⟩

theorem Rd.lower {lo lo' : Nat} {w : World} {v : Value} {zs : List Int} (h : Rd lo w v zs) (hl : lo' ≤ lo) : Rd lo' w v zs := by
  rcases h with h | ⟨g, h1, h0, h2, h3⟩
  · exact .inl h
  · exact .inr ⟨g, h1, Nat.le_trans hl h0, h2, h3⟩

/-- A store below 'lo' leaves it. -/
theorem Rd.store {lo : Nat} {w : World} {v : Value} {zs : List Int} (h : Rd lo w v zs) {p : Addr} (hp : p.block < lo) (u : Value) : Rd lo (w.setCell p u) v zs := by
  rcases h with h | ⟨g, h1, h0, h2, h3⟩
  · exact .inl h
  · refine .inr ⟨g, h1, h0, by simpa [World.setCell] using h2, fun i hi => ?_⟩
    have e : (w.setCell p u).cell? ⟨g, i, none⟩ = w.cell? ⟨g, i, none⟩ := World.cell?_of_block (w := w) (Below.heap_setCell w p u g (by omega))
    rw [e]; exact h3 i hi

theorem Rd.shape {lo : Nat} {w : World} {v : Value} {zs : List Int} (h : Rd lo w v zs) : ∃ a : Option Addr, v = .slice a zs.length zs.length ∧ ∀ i, i < zs.length → ∃ g, a = some ⟨g, 0, none⟩ ∧ g < w.heap.size ∧ w.cell? ⟨g, i, none⟩ = some (.int .u8 (zs.getD i 0)) := by
  rcases h with ⟨rfl, rfl⟩ | ⟨g, rfl, h0, h2, h3⟩
  · exact ⟨none, rfl, fun i hi => absurd hi (by simp)⟩
  · exact ⟨_, rfl, fun i hi => ⟨g, rfl, h2, h3 i hi⟩⟩

theorem clone_any {w : World} {a : Option Addr} {len cap : Nat} {zs : List Int} (h : IsRow .u8 w a len cap zs) (hl : len ≤ 1048576) :
    Calls Try.prog 13 #[.slice a len cap] w fun e w' => ∃ v, e = .returned v ∧ Rd w.heap.size w' v (zs.take len) ∧ Below w.heap.size w w' := by
  rcases h with ⟨rfl, rfl, rfl, rfl⟩ | ⟨x, rfl, h1, h2, h3, h4, h5⟩
  · refine (clone_nil w).mono ?_
    rintro e w' ⟨rfl, rfl⟩
    exact ⟨_, rfl, .inl ⟨rfl, rfl⟩, Below.refl _ _⟩
  · refine (clone_some x len cap zs w hl (by omega) (fun i hi => h4 i (by omega))).mono ?_
    rintro e w' ⟨rfl, hb, hc⟩
    have e : (zs.take len).length = len := by simp; omega
    refine ⟨_, rfl, .inr ⟨w.heap.size, by rw [e], Nat.le_refl _, (hb.lt _ rfl).2, fun i hi => own_cell hb e i (by omega)⟩, hc⟩

/-- It hands back some bool that fits P; the world is as it was. -/
def RetB (w w' : World) (e : Ending) (P : Bool → Prop) : Prop := ∃ b, e = .returned (.bool b) ∧ P b ∧ w = w'
theorem RetB.mk {w : World} {P : Bool → Prop} (b : Bool) (h : P b) : RetB w w (.returned (.bool b)) P := ⟨b, rfl, h, rfl⟩

end Go.Proofs.Qxb6600865a
