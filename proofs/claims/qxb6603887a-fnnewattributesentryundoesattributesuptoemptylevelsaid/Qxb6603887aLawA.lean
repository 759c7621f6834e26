/- FnAttributesUndoesNewAttributesEntry and its converse, walked. -/
import Derived.Test.Qxb6603887aClone
import Derived.SliceStrings
namespace Go.Proofs.Qxb6603887a
open Go.RowKit Go.WideShapes Go.ChangeShapes Go.ChangeAt

/-- A slice of strings that came in: nil, or a row of 'cap' cells. -/
def IsStrs (w : World) (a : Option Addr) (len cap : Nat) (ss : List ByteArray) : Prop :=
  (a = none ∧ len = 0 ∧ cap = 0 ∧ ss = []) ∨
  ∃ x, a = some x ∧ len ≤ cap ∧ cap ≤ maxLen ∧ ss.length = cap ∧ (∀ i, i < ss.length → w.cell? (x.add i) = some (.string (ss.getD i ByteArray.empty))) ∧ ∀ s ∈ ss, s.size ≤ maxLen

theorem IsStrs.len {w : World} {a : Option Addr} {len cap : Nat} {ss : List ByteArray} (h : IsStrs w a len cap ss) : len ≤ maxLen := by
  rcases h with ⟨rfl, rfl, rfl, rfl⟩ | ⟨x, rfl, h1, h2, h3, h4, h5⟩
  · exact Nat.zero_le _
  · omega

theorem IsStrs.rd {w : World} {a : Option Addr} {len cap : Nat} {ss : List ByteArray} (h : IsStrs w a len cap ss) : RdS w a len ss := by
  rcases h with ⟨rfl, rfl, rfl, rfl⟩ | ⟨⟨b, off, spot⟩, rfl, h1, h2, h3, h4, h5⟩
  · intro i hi; omega
  · intro i hi
    have hc := h4 i (by omega)
    have hspot : spot = none := by
      have h0 := h4 0 (by omega)
      simpa [Addr.add] using World.cell?_spot h0
    subst hspot
    refine ⟨b, off, rfl, by rw [← add_plain]; exact hc, ?_⟩
    have hil : i < ss.length := by omega
    simp only [List.getD, List.getElem?_eq_getElem hil, Option.getD_some]
    exact h5 _ (List.getElem_mem hil)

theorem IsStrs.later {w w' : World} {a : Option Addr} {len cap : Nat} {ss : List ByteArray} (h : IsStrs w a len cap ss) (hb : Below w.heap.size w w') : IsStrs w' a len cap ss := by
  rcases h with h | ⟨x, rfl, h1, h2, h3, h4, h5⟩
  · exact .inl h
  · exact .inr ⟨x, rfl, h1, h2, h3, fun i hi => (hb.cell (cell_block_lt (h4 i hi))).trans (h4 i hi), h5⟩

/-- A slice of strings that the law itself holds. -/
def HdS (w : World) (v : Value) : Prop :=
  v = .slice none 0 0 ∨ ∃ (g n : Nat) (ss : List ByteArray), v = .slice (some ⟨g, 0, none⟩) n n ∧ n ≤ 65536 ∧ ∀ i, i < n → w.cell? ⟨g, i, none⟩ = some (.string (ss.getD i ByteArray.empty))

theorem HdS.later {w w' : World} {v : Value} (h : HdS w v) (hb : Below w.heap.size w w') : HdS w' v := by
  rcases h with h | ⟨g, n, ss, rfl, h1, h2⟩
  · exact .inl h
  · exact .inr ⟨g, n, ss, rfl, h1, fun i hi => (hb.cell (cell_block_lt (h2 i hi))).trans (h2 i hi)⟩

theorem HdS.shape {w : World} {v : Value} (h : HdS w v) : ∃ a n, v = .slice a n n := by
  rcases h with rfl | ⟨g, n, ss, rfl, _⟩
  · exact ⟨none, 0, rfl⟩
  · exact ⟨_, n, rfl⟩

theorem clone_any {w : World} {a : Option Addr} {len cap : Nat} {ss : List ByteArray} (h : IsStrs w a len cap ss) (hl : len ≤ 65536) :
    Calls Try.prog 11 #[.slice a len cap] w fun e w' => ∃ v, e = .returned v ∧ HdS w' v ∧ Below w.heap.size w w' := by
  have hr := h.rd
  rcases h with ⟨rfl, rfl, rfl, rfl⟩ | ⟨x, rfl, h1, h2, h3, h4, h5⟩
  · refine (clone_nil w).mono ?_
    rintro e w' ⟨rfl, rfl⟩
    exact ⟨_, rfl, .inl rfl, Below.refl _ _⟩
  · refine (clone_some x len cap ss w hl (by omega) hr).mono ?_
    rintro e w' ⟨rfl, ho, hb⟩
    exact ⟨_, rfl, .inr ⟨_, len, ss.take len, rfl, hl, fun i hi => own_str ho (by simp; omega) i hi⟩, hb⟩

theorem same_any {w : World} {v : Value} (h : HdS w v) : Calls Try.prog 14 #[v, v] w fun e w' => e = .returned (.bool true) ∧ Below w.heap.size w w' := by
  rcases h with rfl | ⟨g, n, ss, rfl, h1, h2⟩
  · exact same_nil w
  · exact same_some g n n ss w h1 h2

theorem empty_of {s : ByteArray} (h : s.toList.isEmpty = true) : s = ⟨#[]⟩ := by
  rw [ByteArray.toList_eq] at h
  cases s with
  | mk d =>
    have : d = #[] := by
      have h2 : d.toList = [] := by simpa using h
      exact Array.toList_eq_nil_iff.1 h2
    rw [this]

set_option maxRecDepth 100000 in
set_option maxHeartbeats 2000000 in
theorem lawA (nm lv : ByteArray) (pa da : Option Addr) (pn pc dn dc : Nat) (ad ac : Bool) (ps ds : List ByteArray) (w : World) (h1 : nm.size ≤ maxLen) (h2 : lv.size ≤ maxLen) (hp : IsStrs w pa pn pc ps) (hd : IsStrs w da dn dc ds) :
    Calls Try.prog 4 #[.string nm, .string lv, .slice pa pn pc, .slice da dn dc, .bool ad, .bool ac] w fun e w' => e = .returned (.bool true) ∧ Below w.heap.size w w' := by
  have Hp := hide' hp
  have Hd := hide' hd
  have B := hide' (bytes9 nm lv pa da pn pc dn dc ad ac ps ds w hp.rd hd.rd h1 h2 hp.len hd.len)
  have T := hide' (tooBig10 nm lv pa da pn pc dn dc ps ds w hp.rd hd.rd h1 h2 hp.len hd.len)
  clear hp hd h1 h2
  go_enter Try.func4, Try.ntmps4
  go_wp2_with fail
  refine (unhide' B).mono ?_
  rintro e wx ⟨b, rfl, _, rfl⟩
  cases b
  case false =>
    go_wp2
    go_ret
    exact ⟨rfl, Below.refl _ _⟩
  case true =>
    go_wp2_with fail
    refine (unhide' T).mono ?_
    rintro e wx ⟨b, rfl, hb, rfl⟩
    cases b
    case true =>
      go_wp2
      go_ret
      exact ⟨rfl, Below.refl _ _⟩
    case false =>
      obtain ⟨hpn, hdn⟩ := hb rfl
      clear hb B T
      go_wp2_with fail
      refine (clone_any (unhide' Hp) hpn).mono ?_
      rintro e w1 ⟨v1, rfl, hv1, b1⟩
      have Hv1 := hide' hv1
      clear hv1
      go_wp2_with fail
      refine (clone_any ((unhide' Hd).later b1) hdn).mono ?_
      rintro e w2 ⟨v2, rfl, hv2, b2⟩
      have Hv2 := hide' hv2
      have Hv1' := hide' ((unhide' Hv1).later b2)
      have b3 : Below w.heap.size w w2 := b1.trans (b2.mono b1.size)
      clear hv2 b1 b2 Hv1
      obtain ⟨a1, n1, rfl⟩ := (unhide' Hv1').shape
      obtain ⟨a2, n2, rfl⟩ := (unhide' Hv2).shape
      cases he : lv.toList.isEmpty
      case false =>
        go_wp2_with fail
        refine (newEntry_full nm lv a1 a2 n1 n1 n2 n2 ad ac w2 he).mono ?_
        rintro e w3 ⟨rfl, b4⟩
        go_wp2_with fail
        refine (attrs_has nm lv a1 a2 n1 n1 n2 n2 ad ac w3).mono ?_
        rintro e w4 ⟨rfl, b5⟩
        have G1 := hide' (((unhide' Hv1').later b4).later b5)
        have G2 := hide' (((unhide' Hv2).later b4).later b5)
        have b6 : Below w.heap.size w w4 := b3.trans ((b4.mono b3.size).trans (b5.mono (Nat.le_trans b3.size b4.size)))
        clear b3 b4 b5 Hv1' Hv2
        go_wp2_with fail
        refine (same_any (unhide' G1)).mono ?_
        rintro e w5 ⟨rfl, b7⟩
        go_wp2_with fail
        refine (same_any ((unhide' G2).later b7)).mono ?_
        rintro e w6 ⟨rfl, b8⟩
        go_wp2
        go_ret
        exact ⟨rfl, b6.trans ((b7.mono b6.size).trans (b8.mono (Nat.le_trans b6.size b7.size)))⟩
      case true =>
        obtain rfl := empty_of he
        go_wp2_with fail
        refine (newEntry_none nm ⟨#[]⟩ a1 a2 n1 n1 n2 n2 ad ac w2 he).mono ?_
        rintro e w3 ⟨rfl, b4⟩
        go_wp2_with fail
        refine (attrs_none nm ⟨#[]⟩ a1 a2 n1 n1 n2 n2 ad ac w3).mono ?_
        rintro e w4 ⟨rfl, b5⟩
        have G1 := hide' (((unhide' Hv1').later b4).later b5)
        have G2 := hide' (((unhide' Hv2).later b4).later b5)
        have b6 : Below w.heap.size w w4 := b3.trans ((b4.mono b3.size).trans (b5.mono (Nat.le_trans b3.size b4.size)))
        clear b3 b4 b5 Hv1' Hv2
        go_wp2_with fail
        refine (same_any (unhide' G1)).mono ?_
        rintro e w5 ⟨rfl, b7⟩
        go_wp2_with fail
        refine (same_any ((unhide' G2).later b7)).mono ?_
        rintro e w6 ⟨rfl, b8⟩
        go_wp2
        go_ret
        exact ⟨rfl, b6.trans ((b7.mono b6.size).trans (b8.mono (Nat.le_trans b6.size b7.size)))⟩
end Go.Proofs.Qxb6603887a
