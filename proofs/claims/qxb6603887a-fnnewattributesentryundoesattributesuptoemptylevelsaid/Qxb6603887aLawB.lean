/- FnNewAttributesEntryUndoesAttributesUpToEmptyLevel, walked. -/
import Derived.Test.Qxb6603887aLawA
namespace Go.Proofs.Qxb6603887a
open Go.RowKit Go.WideShapes Go.ChangeShapes Go.ChangeAt

theorem empty_is : (⟨#[]⟩ : ByteArray).toList.isEmpty = true := by rw [ByteArray.toList_eq]; rfl

set_option maxRecDepth 100000 in
set_option maxHeartbeats 2000000 in
theorem lawB (nm lv : ByteArray) (hl : Bool) (pa da : Option Addr) (pn pc dn dc : Nat) (ad ac : Bool) (ps ds : List ByteArray) (w : World) (h1 : nm.size ≤ maxLen) (h2 : lv.size ≤ maxLen) (hp : IsStrs w pa pn pc ps) (hd : IsStrs w da dn dc ds) :
    Calls Try.prog 5 #[.string nm, .bool hl, .string lv, .slice pa pn pc, .slice da dn dc, .bool ad, .bool ac] w fun e w' => e = .returned (.bool true) ∧ Below w.heap.size w w' := by
  have Hp := hide' hp
  have Hd := hide' hd
  have B := hide' (bytes15 nm lv hl pa da pn pc dn dc ad ac ps ds w hp.rd hd.rd h1 h2 hp.len hd.len)
  have T := hide' (tooBig10 nm lv pa da pn pc dn dc ps ds w hp.rd hd.rd h1 h2 hp.len hd.len)
  clear hp hd h1 h2
  go_enter Try.func5, Try.ntmps5
  go_wp2_with fail
  refine (unhide' B).mono ?_
  rintro e wx ⟨b, rfl, _, rfl⟩
  cases b
  case false =>
    go_wp2
    go_ret
    exact ⟨rfl, Below.refl _ _⟩
  case true =>
    go_wp2_with fail
    refine (unhide' T).mono ?_
    rintro e wx ⟨b, rfl, hb, rfl⟩
    cases b
    case true =>
      go_wp2
      go_ret
      exact ⟨rfl, Below.refl _ _⟩
    case false =>
      obtain ⟨hpn, hdn⟩ := hb rfl
      clear hb B T
      go_wp2_with fail
      refine (clone_any (unhide' Hp) hpn).mono ?_
      rintro e w1 ⟨v1, rfl, hv1, b1⟩
      have Hv1 := hide' hv1
      clear hv1
      go_wp2_with fail
      refine (clone_any ((unhide' Hd).later b1) hdn).mono ?_
      rintro e w2 ⟨v2, rfl, hv2, b2⟩
      have Hv2 := hide' hv2
      have Hv1' := hide' ((unhide' Hv1).later b2)
      have b3 : Below w.heap.size w w2 := b1.trans (b2.mono b1.size)
      clear hv2 b1 b2 Hv1
      obtain ⟨a1, n1, rfl⟩ := (unhide' Hv1').shape
      obtain ⟨a2, n2, rfl⟩ := (unhide' Hv2).shape
      cases hl
      case false =>
        go_wp2_with fail
        refine (attrs_none nm lv a1 a2 n1 n1 n2 n2 ad ac w2).mono ?_
        rintro e w3 ⟨rfl, b4⟩
        go_wp2_with fail
        refine (newEntry_none nm ⟨#[]⟩ a1 a2 n1 n1 n2 n2 ad ac w3 empty_is).mono ?_
        rintro e w4 ⟨rfl, b5⟩
        have G1 := hide' (((unhide' Hv1').later b4).later b5)
        have G2 := hide' (((unhide' Hv2).later b4).later b5)
        have b6 : Below w.heap.size w w4 := b3.trans ((b4.mono b3.size).trans (b5.mono (Nat.le_trans b3.size b4.size)))
        clear b3 b4 b5 Hv1' Hv2
        go_wp2_with fail
        refine (same_any (unhide' G1)).mono ?_
        rintro e w5 ⟨rfl, b7⟩
        go_wp2_with fail
        refine (same_any ((unhide' G2).later b7)).mono ?_
        rintro e w6 ⟨rfl, b8⟩
        go_wp2
        go_ret
        exact ⟨rfl, b6.trans ((b7.mono b6.size).trans (b8.mono (Nat.le_trans b6.size b7.size)))⟩
      case true =>
       cases he : lv.toList.isEmpty
       case false =>
        go_wp2_with fail
        refine (attrs_has nm lv a1 a2 n1 n1 n2 n2 ad ac w2).mono ?_
        rintro e w3 ⟨rfl, b4⟩
        go_wp2_with fail
        refine (newEntry_full nm lv a1 a2 n1 n1 n2 n2 ad ac w3 he).mono ?_
        rintro e w4 ⟨rfl, b5⟩
        have G1 := hide' (((unhide' Hv1').later b4).later b5)
        have G2 := hide' (((unhide' Hv2).later b4).later b5)
        have b6 : Below w.heap.size w w4 := b3.trans ((b4.mono b3.size).trans (b5.mono (Nat.le_trans b3.size b4.size)))
        clear b3 b4 b5 Hv1' Hv2
        go_wp2_with fail
        refine (same_any (unhide' G1)).mono ?_
        rintro e w5 ⟨rfl, b7⟩
        go_wp2_with fail
        refine (same_any ((unhide' G2).later b7)).mono ?_
        rintro e w6 ⟨rfl, b8⟩
        go_wp2
        go_ret
        exact ⟨rfl, b6.trans ((b7.mono b6.size).trans (b8.mono (Nat.le_trans b6.size b7.size)))⟩
       case true =>
        go_wp2_with fail
        refine (attrs_has nm lv a1 a2 n1 n1 n2 n2 ad ac w2).mono ?_
        rintro e w3 ⟨rfl, b4⟩
        go_wp2_with fail
        refine (newEntry_none nm lv a1 a2 n1 n1 n2 n2 ad ac w3 he).mono ?_
        rintro e w4 ⟨rfl, b5⟩
        have G1 := hide' (((unhide' Hv1').later b4).later b5)
        have G2 := hide' (((unhide' Hv2).later b4).later b5)
        have b6 : Below w.heap.size w w4 := b3.trans ((b4.mono b3.size).trans (b5.mono (Nat.le_trans b3.size b4.size)))
        clear b3 b4 b5 Hv1' Hv2
        go_wp2_with fail
        refine (same_any (unhide' G1)).mono ?_
        rintro e w5 ⟨rfl, b7⟩
        go_wp2_with fail
        refine (same_any ((unhide' G2).later b7)).mono ?_
        rintro e w6 ⟨rfl, b8⟩
        go_wp2
        go_ret
        exact ⟨rfl, b6.trans ((b7.mono b6.size).trans (b8.mono (Nat.le_trans b6.size b7.size)))⟩
end Go.Proofs.Qxb6603887a
