/- What is drawn from 'Enc'. -/
import Derived.Test.Qxb6603022aMath3
namespace Go.Proofs.Qxb6603022a.M58

theorem enc_open {zs out : List Int} (hd : Dig 256 zs) (h : Enc zs out) : ∃ (z : Nat) (D : List Int), z ≤ zs.length ∧ zs.take z = List.replicate z 0 ∧ (z < zs.length → zs.getD z 0 ≠ 0) ∧ Dig 58 D ∧ Canon D ∧ V 58 D 0 = V 256 (zs.drop z).reverse 0 ∧
    out = text z D.reverse ∧ D.length ≤ 2 * zs.length + 1 := by
  obtain ⟨z, D, h1, h2, h3, h4, h5, h6, h7⟩ := h
  refine ⟨z, D, h1, h2, h3, h4, h5, h6, by rw [h7, text, List.map_reverse], ?_⟩
  have h8 := V_lt_pow (zs.drop z).reverse (Dig_reverse (Dig_drop hd z))
  have h9 := canon_len (m := (zs.drop z).reverse.length) h4 h5 (by rw [h6]; exact h8)
  simp at h9
  omega

theorem text_dig {z : Nat} {R : List Int} (h : Dig 58 R) : Dig 256 (text z R) := by
  unfold text
  refine Dig_append.2 ⟨?_, ?_⟩
  · intro d hd
    have := List.eq_of_mem_replicate hd
    omega
  · intro d hd
    obtain ⟨x, hx, rfl⟩ := List.mem_map.1 hd
    have := alpha_range (h x hx).1 (h x hx).2
    omega

end Go.Proofs.Qxb6603022a.M58
