/- More plain mathematics: the order. -/
import Derived.Test.Qxb6603022aEncFacts
namespace Go.Proofs.Qxb6603022a.M58

theorem lex_map : ∀ (x y : List Int), Dig 58 x → Dig 58 y → lex (x.map alpha) (y.map alpha) = lex x y
  | [], _, _, _ => by simp [lex]
  | _ :: _, [], _, _ => by simp [lex]
  | a :: x, b :: y, hx, hy => by
    have h1 := (Dig_cons.1 hx).1
    have h2 := (Dig_cons.1 hy).1
    rw [List.map_cons, List.map_cons]
    unfold lex
    rw [lex_map x y (Dig_cons.1 hx).2 (Dig_cons.1 hy).2]
    by_cases hab : a < b
    · simp [hab, alpha_lt hab h2.2]
    · by_cases hba : b < a
      · have := alpha_lt hba h1.2
        have h3 : ¬ alpha a < alpha b := by omega
        simp [hab, hba, this, h3]
      · have e : a = b := by omega
        subst e
        simp

theorem slex_map {x y : List Int} (hx : Dig 58 x) (hy : Dig 58 y) : slex (x.map alpha) (y.map alpha) = slex x y := by
  unfold slex
  rw [lex_map x y hx hy]
  simp

theorem enc_lead {zs out : List Int} (hd : Dig 256 zs) (h0 : 0 < zs.length → zs.getD 0 0 ≠ 0) (h : Enc zs out) :
    ∃ D, Dig 58 D ∧ Canon D ∧ V 58 D 0 = V 256 zs.reverse 0 ∧ out = D.reverse.map alpha := by
  obtain ⟨z, D, h1, h2, h3, h4, h5, h6, rfl, h8⟩ := enc_open hd h
  have hz : z = 0 := by
    rcases Nat.eq_zero_or_pos z with h | h
    · exact h
    · exfalso
      apply h0 (by omega)
      have : (zs.take z).getD 0 0 = 0 := by rw [h2]; simp [List.getD, h]
      simpa [List.getD, List.getElem?_take, h] using this
  subst hz
  exact ⟨D, h4, h5, by simpa using h6, by simp [text]⟩

/-- The two comparisons agree. -/
theorem order {xs ys o1 o2 : List Int} (dx : Dig 256 xs) (dy : Dig 256 ys) (hx : 0 < xs.length → xs.getD 0 0 ≠ 0) (hy : 0 < ys.length → ys.getD 0 0 ≠ 0) (e1 : Enc xs o1) (e2 : Enc ys o2) :
    slex xs ys = slex o1 o2 := by
  obtain ⟨D, d1, c1, v1, rfl⟩ := enc_lead dx hx e1
  obtain ⟨E, d2, c2, v2, rfl⟩ := enc_lead dy hy e2
  rw [slex_map (Dig_reverse d1) (Dig_reverse d2), slex_cmp (by omega) dx dy (canon_rev hx) (canon_rev hy),
    slex_cmp (B := 58) (by omega) (Dig_reverse d1) (Dig_reverse d2) (by rw [List.reverse_reverse]; exact c1) (by rw [List.reverse_reverse]; exact c2), List.reverse_reverse, List.reverse_reverse, v1, v2]

theorem lex_drop {x y : List Int} {k : Nat} (hx : k < x.length) (hy : k < y.length) (a b : Int) (ha : a = x.getD k 0) (hb : b = y.getD k 0) :
    lex (x.drop k) (y.drop k) = if a < b then -1 else if b < a then 1 else lex (x.drop (k + 1)) (y.drop (k + 1)) := by
  rw [drop_getD hx, drop_getD hy, ← ha, ← hb]
  rfl

theorem enc_len {zs out : List Int} (hd : Dig 256 zs) (h : Enc zs out) : Dig 256 out ∧ out.length ≤ 3 * zs.length + 1 := by
  obtain ⟨z, D, h1, h2, h3, h4, h5, h6, rfl, h8⟩ := enc_open hd h
  refine ⟨text_dig (Dig_reverse h4), ?_⟩
  rw [text_len]
  simp
  omega

end Go.Proofs.Qxb6603022a.M58
